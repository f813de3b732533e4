import JvmDerived
import JvmDerived.Pilot.@@N@@Statement
import JvmDerived.Pilot.@@N@@Code
set_option linter.unusedVariables false
set_option linter.unusedSimpArgs false
namespace Jvm.RoadKit
open Sem ClassFile Op Lib Jvm.Stand Jvm.Free Jvm.LawKit
section New
variable {p : Program} {l : Launch} {e : Env} {R : Room} {s : State} {m : MethodId} {args : Array Value} {below : List Frame} {meth : Method} {c : Code} {T : State} {locs : List Loc} {cells slots : Nat}
theorem retI (X : Stand p l e R s m args below meth c T locs cells slots) (hx : p.tables.exec = Jvm.exec) {pc : Nat} {Ls : Array Slot} {z : Int32} {rest : List Value} (hret : meth.sig.returnType = some .int) (hd : decode c.code pc = .ok (.ireturn, 1)) {fs : List Frame}
    (hl : ∀ (f : JFrame) (acts : List Action), f.method = m → f.locked = none → f.entered = [] → (doReturn e (T.setTop f) acts (some (.int z))).1 = T.setFrames fs) : Steps p.tables e below (T.setTop (mkF m pc Ls (.int z :: rest))) (T.setFrames fs) := by
  have hm' : T.vm.method? m = some meth := X.method'
  have hn : narrow .int (.int z) = .int z := rfl
  show Steps p.tables e below (T.setTop { method := m, pc := pc, locals := Ls, stack := _ :: rest, locked := none }) _
  jvm_step X.here [X.here.top, hx, hd, hm', hret, hn]
  first | (intro acts; rw [hl _ acts rfl rfl rfl]) | rw [hl _ _ rfl rfl rfl]
  exact Steps.refl _
end New
end Jvm.RoadKit
namespace Jvm.Pilot.@@N@@
open Jvm Jvm.ClassFile Sem Op Lib Jvm.Free Jvm.Stand Jvm.LawKit Jvm.RoadKit Bundle Jvm.Pilot.@@N@@.Jvm.D
theorem own_enum {C n d : String} {k : Int32} {args : Array Value} {s : State} (h1 : (Jvm.Cond.exactly (.static C n d) C).value args s none s [] = some true)
    (h2 : (Jvm.Cond.eq (.field (.static C n d) "java/lang/Enum" "ordinal" "I") (.int k)).value args s none s [] = some true) (wi : (Jvm.Cond.initialized C).before args s = true) (wl : (Jvm.Cond.laysStatic C n d).before args s = true) :
    ∃ a, Sta s s.heap C n d (.ref a) ∧ Exa s s.heap a C ∧ s.fieldOf? a "java/lang/Enum" "ordinal" "I" = some (.int k) := by
  obtain ⟨x, ex⟩ := exa_v h1
  refine ⟨x, Sta.start ex (Or.inr ⟨wi, wl⟩), Exa.start ex h1, ?_⟩
  obtain ⟨u, v, eu, ev, -, kv⟩ := cmp_v (Or.inl h2)
  rw [Term.int_eval] at ev
  cases ev
  obtain ⟨z, rfl⟩ := kv
  rw [← fld_at ex (args := args) (first := s) (o := none) (idx := []), eu]
  simpa [Jvm.Cond.value, eu, Term.int_eval] using h2
theorem own_ne {s : State} {a b : Addr} {i j : Int32} (h1 : s.fieldOf? a "java/lang/Enum" "ordinal" "I" = some (.int i)) (h2 : s.fieldOf? b "java/lang/Enum" "ordinal" "I" = some (.int j)) (h : i ≠ j) : a ≠ b := fun e => by
  subst e; rw [h1] at h2; exact h (by injection h2 with q; injection q)
def own_pick (k : Int32) (aAND aOR aIMPLIES aEQUALS aDIFFERS aLESS aAT_MOST aGREATER aAT_LEAST aPLUS aMINUS aTIMES : Addr) : Addr := if k = (0 : Int32) then aAND else if k = (1 : Int32) then aOR else if k = (2 : Int32) then aIMPLIES else if k = (3 : Int32) then aEQUALS else if k = (4 : Int32) then aDIFFERS else if k = (5 : Int32) then aLESS else if k = (6 : Int32) then aAT_MOST else if k = (7 : Int32) then aGREATER else if k = (8 : Int32) then aAT_LEAST else if k = (9 : Int32) then aPLUS else if k = (10 : Int32) then aMINUS else aTIMES
def own_isArith (a p m t : Addr) : Int32 := if a = p then 1 else if a = m then 1 else if a = t then 1 else 0
theorem own_rem (p1 : Int32) : ∃ k : Int32, k = (p1 &&& (2147483647 : Int32)) % (12 : Int32) ∧ (k = (0 : Int32) ∨ k = (1 : Int32) ∨ k = (2 : Int32) ∨ k = (3 : Int32) ∨ k = (4 : Int32) ∨ k = (5 : Int32) ∨ k = (6 : Int32) ∨ k = (7 : Int32) ∨ k = (8 : Int32) ∨ k = (9 : Int32) ∨ k = (10 : Int32) ∨ k = (11 : Int32)) := by
  refine ⟨_, rfl, ?_⟩
  have h1 := c_and p1 (2147483647 : Int32) (by decide)
  have h2 := (c_irem (p1 &&& (2147483647 : Int32)) (12 : Int32) 12 (by decide)).1 h1.1
  generalize (p1 &&& (2147483647 : Int32)) % (12 : Int32) = k at *
  generalize (p1 &&& (2147483647 : Int32)) = q at *
  have e : ∀ i : Int32, k = i ↔ k.toInt = i.toInt := fun i => Int32.toInt_inj.symm
  simp only [e, show (0 : Int32).toInt = 0 from rfl, show (1 : Int32).toInt = 1 from rfl, show (2 : Int32).toInt = 2 from rfl, show (3 : Int32).toInt = 3 from rfl, show (4 : Int32).toInt = 4 from rfl, show (5 : Int32).toInt = 5 from rfl, show (6 : Int32).toInt = 6 from rfl, show (7 : Int32).toInt = 7 from rfl, show (8 : Int32).toInt = 8 from rfl, show (9 : Int32).toInt = 9 from rfl, show (10 : Int32).toInt = 10 from rfl, show (11 : Int32).toInt = 11 from rfl]
  omega
theorem d1_0 : decode method_2_code 0 = .ok (.iload_n 0, 1) := by decide +kernel
theorem d1_1 : decode method_2_code 1 = .ok (.ifCond .ne 7, 3) := by decide +kernel
theorem d1_4 : decode method_2_code 4 = .ok (.getstatic 7, 3) := by decide +kernel
theorem d1_7 : decode method_2_code 7 = .ok (.areturn, 1) := by decide +kernel
theorem d1_8 : decode method_2_code 8 = .ok (.iload_n 0, 1) := by decide +kernel
theorem d1_9 : decode method_2_code 9 = .ok (.iconst 1, 1) := by decide +kernel
theorem d1_10 : decode method_2_code 10 = .ok (.if_icmp .ne 7, 3) := by decide +kernel
theorem d1_13 : decode method_2_code 13 = .ok (.getstatic 13, 3) := by decide +kernel
theorem d1_16 : decode method_2_code 16 = .ok (.areturn, 1) := by decide +kernel
theorem d1_17 : decode method_2_code 17 = .ok (.iload_n 0, 1) := by decide +kernel
theorem d1_18 : decode method_2_code 18 = .ok (.iconst 2, 1) := by decide +kernel
theorem d1_19 : decode method_2_code 19 = .ok (.if_icmp .ne 7, 3) := by decide +kernel
theorem d1_22 : decode method_2_code 22 = .ok (.getstatic 16, 3) := by decide +kernel
theorem d1_25 : decode method_2_code 25 = .ok (.areturn, 1) := by decide +kernel
theorem d1_26 : decode method_2_code 26 = .ok (.iload_n 0, 1) := by decide +kernel
theorem d1_27 : decode method_2_code 27 = .ok (.iconst 3, 1) := by decide +kernel
theorem d1_28 : decode method_2_code 28 = .ok (.if_icmp .ne 7, 3) := by decide +kernel
theorem d1_31 : decode method_2_code 31 = .ok (.getstatic 19, 3) := by decide +kernel
theorem d1_34 : decode method_2_code 34 = .ok (.areturn, 1) := by decide +kernel
theorem d1_35 : decode method_2_code 35 = .ok (.iload_n 0, 1) := by decide +kernel
theorem d1_36 : decode method_2_code 36 = .ok (.iconst 4, 1) := by decide +kernel
theorem d1_37 : decode method_2_code 37 = .ok (.if_icmp .ne 7, 3) := by decide +kernel
theorem d1_40 : decode method_2_code 40 = .ok (.getstatic 22, 3) := by decide +kernel
theorem d1_43 : decode method_2_code 43 = .ok (.areturn, 1) := by decide +kernel
theorem d1_44 : decode method_2_code 44 = .ok (.iload_n 0, 1) := by decide +kernel
theorem d1_45 : decode method_2_code 45 = .ok (.iconst 5, 1) := by decide +kernel
theorem d1_46 : decode method_2_code 46 = .ok (.if_icmp .ne 7, 3) := by decide +kernel
theorem d1_49 : decode method_2_code 49 = .ok (.getstatic 25, 3) := by decide +kernel
theorem d1_52 : decode method_2_code 52 = .ok (.areturn, 1) := by decide +kernel
theorem d1_53 : decode method_2_code 53 = .ok (.iload_n 0, 1) := by decide +kernel
theorem d1_54 : decode method_2_code 54 = .ok (.bipush 6, 2) := by decide +kernel
theorem d1_56 : decode method_2_code 56 = .ok (.if_icmp .ne 7, 3) := by decide +kernel
theorem d1_59 : decode method_2_code 59 = .ok (.getstatic 28, 3) := by decide +kernel
theorem d1_62 : decode method_2_code 62 = .ok (.areturn, 1) := by decide +kernel
theorem d1_63 : decode method_2_code 63 = .ok (.iload_n 0, 1) := by decide +kernel
theorem d1_64 : decode method_2_code 64 = .ok (.bipush 7, 2) := by decide +kernel
theorem d1_66 : decode method_2_code 66 = .ok (.if_icmp .ne 7, 3) := by decide +kernel
theorem d1_69 : decode method_2_code 69 = .ok (.getstatic 31, 3) := by decide +kernel
theorem d1_72 : decode method_2_code 72 = .ok (.areturn, 1) := by decide +kernel
theorem d1_73 : decode method_2_code 73 = .ok (.iload_n 0, 1) := by decide +kernel
theorem d1_74 : decode method_2_code 74 = .ok (.bipush 8, 2) := by decide +kernel
theorem d1_76 : decode method_2_code 76 = .ok (.if_icmp .ne 7, 3) := by decide +kernel
theorem d1_79 : decode method_2_code 79 = .ok (.getstatic 34, 3) := by decide +kernel
theorem d1_82 : decode method_2_code 82 = .ok (.areturn, 1) := by decide +kernel
theorem d1_83 : decode method_2_code 83 = .ok (.iload_n 0, 1) := by decide +kernel
theorem d1_84 : decode method_2_code 84 = .ok (.bipush 9, 2) := by decide +kernel
theorem d1_86 : decode method_2_code 86 = .ok (.if_icmp .ne 7, 3) := by decide +kernel
theorem d1_89 : decode method_2_code 89 = .ok (.getstatic 37, 3) := by decide +kernel
theorem d1_92 : decode method_2_code 92 = .ok (.areturn, 1) := by decide +kernel
theorem d1_93 : decode method_2_code 93 = .ok (.iload_n 0, 1) := by decide +kernel
theorem d1_94 : decode method_2_code 94 = .ok (.bipush 10, 2) := by decide +kernel
theorem d1_96 : decode method_2_code 96 = .ok (.if_icmp .ne 7, 3) := by decide +kernel
theorem d1_99 : decode method_2_code 99 = .ok (.getstatic 40, 3) := by decide +kernel
theorem d1_102 : decode method_2_code 102 = .ok (.areturn, 1) := by decide +kernel
theorem d1_103 : decode method_2_code 103 = .ok (.getstatic 43, 3) := by decide +kernel
theorem d1_106 : decode method_2_code 106 = .ok (.areturn, 1) := by decide +kernel
theorem pn_c0 : plainName "com/example/dasv/dasv/model/OperatorIsArithmeticPinLaw" = true := by first | (simp [plainName, overriddenIn]; done) | decide +kernel
theorem ef_rm1 (m : MethodId) (x0 : Int32) : entryFrame m #[(.int x0)] 1 = mkF m 0 #[.val (.int x0)] [] := by first | (simp [entryFrame, mkF, argsToLocals, Value.category]; done) | rfl
def Q_rm1 (Z : State) (p1 : Int32) (aAND aOR aIMPLIES aEQUALS aDIFFERS aLESS aAT_MOST aGREATER aAT_LEAST aPLUS aMINUS aTIMES : Addr) (h0 : Heap) (n0 : Nat) (v : Option Value) (h : Heap) (L : List Loc) : Prop := v = some (.ref (own_pick p1 aAND aOR aIMPLIES aEQUALS aDIFFERS aLESS aAT_MOST aGREATER aAT_LEAST aPLUS aMINUS aTIMES)) ∧ Fr n0 L ∧ h = h0
set_option maxRecDepth 65536 in
set_option maxHeartbeats 40000000 in
theorem rm1 (l : Launch) (Z : State) (a0 : Array Value) (hw : ∀ d ∈ tables_1, d.before a0 Z = true) (ws : List Jvm.Cond) (p1 : Int32) (aAND aOR aIMPLIES aEQUALS aDIFFERS aLESS aAT_MOST aGREATER aAT_LEAST aPLUS aMINUS aTIMES : Addr) (h0 : Heap) (n0 : Nat) (Z0 : n0 ≤ h0.size) (SAND : Sta Z h0 "com/example/dasv/dasv/model/Expression$Operator" "AND" "Lcom/example/dasv/dasv/model/Expression$Operator;" (.ref aAND)) (SOR : Sta Z h0 "com/example/dasv/dasv/model/Expression$Operator" "OR" "Lcom/example/dasv/dasv/model/Expression$Operator;" (.ref aOR)) (SIMPLIES : Sta Z h0 "com/example/dasv/dasv/model/Expression$Operator" "IMPLIES" "Lcom/example/dasv/dasv/model/Expression$Operator;" (.ref aIMPLIES)) (SEQUALS : Sta Z h0 "com/example/dasv/dasv/model/Expression$Operator" "EQUALS" "Lcom/example/dasv/dasv/model/Expression$Operator;" (.ref aEQUALS)) (SDIFFERS : Sta Z h0 "com/example/dasv/dasv/model/Expression$Operator" "DIFFERS" "Lcom/example/dasv/dasv/model/Expression$Operator;" (.ref aDIFFERS)) (SLESS : Sta Z h0 "com/example/dasv/dasv/model/Expression$Operator" "LESS" "Lcom/example/dasv/dasv/model/Expression$Operator;" (.ref aLESS)) (SAT_MOST : Sta Z h0 "com/example/dasv/dasv/model/Expression$Operator" "AT_MOST" "Lcom/example/dasv/dasv/model/Expression$Operator;" (.ref aAT_MOST)) (SGREATER : Sta Z h0 "com/example/dasv/dasv/model/Expression$Operator" "GREATER" "Lcom/example/dasv/dasv/model/Expression$Operator;" (.ref aGREATER)) (SAT_LEAST : Sta Z h0 "com/example/dasv/dasv/model/Expression$Operator" "AT_LEAST" "Lcom/example/dasv/dasv/model/Expression$Operator;" (.ref aAT_LEAST)) (SPLUS : Sta Z h0 "com/example/dasv/dasv/model/Expression$Operator" "PLUS" "Lcom/example/dasv/dasv/model/Expression$Operator;" (.ref aPLUS)) (SMINUS : Sta Z h0 "com/example/dasv/dasv/model/Expression$Operator" "MINUS" "Lcom/example/dasv/dasv/model/Expression$Operator;" (.ref aMINUS)) (STIMES : Sta Z h0 "com/example/dasv/dasv/model/Expression$Operator" "TIMES" "Lcom/example/dasv/dasv/model/Expression$Operator;" (.ref aTIMES)) :
    MetFree l (⟨"com/example/dasv/dasv/model/OperatorIsArithmeticPinLaw", "pick", "(I)Lcom/example/dasv/dasv/model/Expression$Operator;"⟩ : MethodName) (head1 (Jvm.Cond.code (⟨"com/example/dasv/dasv/model/OperatorIsArithmeticPinLaw", "pick", "(I)Lcom/example/dasv/dasv/model/Expression$Operator;"⟩ : MethodName) method_2_code 1 (some (.object "com/example/dasv/dasv/model/Expression$Operator")) :: ws) ({ frames := 0, cells := 0, slots := 0, locals := 0 } : Room)) (fun a U => a = #[(.int p1)] ∧ Z.Warmed39 U.vm ∧ U.heap = h0) (fun _ _ _ _ _ => True) (fun _ U o U' => ∃ v L, o = .returned v ∧ Q_rm1 Z p1 aAND aOR aIMPLIES aEQUALS aDIFFERS aLESS aAT_MOST aGREATER aAT_LEAST aPLUS aMINUS aTIMES h0 n0 v U'.heap L ∧ FrameEnd U o U' L ({ frames := 0, cells := 0, slots := 0, locals := 0 } : Room).cells ({ frames := 0, cells := 0, slots := 0, locals := 0 } : Room).slots) := by
  refine MetFree.of_bodySF (plainFor_of_name pn_c0) hisR ?_
  intro p e s m args below meth c s₁ Bd hml0 hP hK
  obtain ⟨rfl, hZ, hh⟩ := hP
  have hx := Bd.exec
  have hby := Bd.bytes
  have hml : c.maxLocals = 1 := hml0
  have hown : s.vm.findClass "com/example/dasv/dasv/model/OperatorIsArithmeticPinLaw" = some m.cls := findClass_of_methodNamed Bd.named
  have hnm := (name_of_methodNamed Bd.named Bd.method).1
  have X0 : Stand p l e ({ frames := 0, cells := 0, slots := 0, locals := 0 } : Room) s m #[(.int p1)] below meth c s₁ [] 0 0 := Stand.of_body Bd
  have e0 : s₁.heap = h0 := by rw [← hh, Bd.state]; rfl
  have N0 := Fr.nil n0
  have pre0 : ∀ t, Steps p.tables e below (s₁.setTop (mkF m 0 #[.val (.int p1)] [])) t → Steps p.tables e below (s₁.setTop (entryFrame m #[(.int p1)] 1)) t := fun t k => castTop (ef_rm1 m p1) k
  have k1 : ∀ t, Steps p.tables e below (s₁.setTop (mkF m 1 #[.val (.int p1)] [(.int p1)])) t → Steps p.tables e below (s₁.setTop (entryFrame m #[(.int p1)] 1)) t := fun t kt => pre0 t (by
      show Steps p.tables e below (s₁.setTop (mkF m 0 #[.val (.int p1)] [])) _
      refine XS.iloadN X0.here hx rfl (hb hby d1_0) rfl ?_
      exact kt)
  by_cases hc1_2 : p1 = (0 : Int32)
  · obtain ⟨T3, X3, e3, st3⟩ := getS2 X0 hx hZ hown (host := "") (Or.inl (hw _ (List.mem_of_getElem? (i := 5) rfl))) Via.refl e0 SAND (g := (mkF m 4 #[.val (.int p1)] [])) rfl (hb hby d1_4)
    have k4 : ∀ t, Steps p.tables e below (T3.setTop (mkF m 7 #[.val (.int p1)] [(.ref aAND)])) t → Steps p.tables e below (s₁.setTop (entryFrame m #[(.int p1)] 1)) t := fun t kt => k1 t (by
        show Steps p.tables e below (s₁.setTop (mkF m 1 #[.val (.int p1)] [(.int p1)])) _
        refine XS.ifNo X0.here hx rfl (hb hby d1_1) rfl ((if0 _ _).trans (teq hc1_2).2) ?_
        show Steps p.tables e below (s₁.setTop (mkF m 4 #[.val (.int p1)] [])) _
        refine st3 _ ?_
        exact kt)
    obtain ⟨fs, hr, hrun, hended, hW, hsame⟩ := X3.leave (v := some (.ref aAND)) (fun h => by rw [Bd.returns] at h; cases h)
    refine ⟨_, _, k4 _ ?_, hrun, hended, _, _, rfl, ?_, ⟨_, rfl⟩, hW, hsame.mono (by decide) (by decide)⟩
    · show Steps p.tables e below (T3.setTop (mkF m 7 #[.val (.int p1)] [(.ref aAND)])) _
      jvm_step X3.here [X3.here.top, hx, (hb hby d1_7), X3.method', Bd.returns, Value.isRef, FieldType.isReference]
      first | (intro acts; rw [hr _ acts rfl rfl rfl]) | rw [hr _ _ rfl rfl rfl]
      exact Steps.refl _
    · show Q_rm1 Z p1 aAND aOR aIMPLIES aEQUALS aDIFFERS aLESS aAT_MOST aGREATER aAT_LEAST aPLUS aMINUS aTIMES h0 n0 _ T3.heap _
      rw [e3]
      exact ⟨by simp only [own_pick, if_pos hc1_2], N0, rfl⟩
  · have k5 : ∀ t, Steps p.tables e below (s₁.setTop (mkF m 10 #[.val (.int p1)] [(.int (1 : Int32)), (.int p1)])) t → Steps p.tables e below (s₁.setTop (entryFrame m #[(.int p1)] 1)) t := fun t kt => k1 t (by
        show Steps p.tables e below (s₁.setTop (mkF m 1 #[.val (.int p1)] [(.int p1)])) _
        refine XS.ifYes X0.here hx rfl (pc0 := 1) (pc' := 8) rfl (hb hby d1_1) rfl ((if0 _ _).trans (feq hc1_2).2) (by decide) (by decide) ?_
        show Steps p.tables e below (s₁.setTop (mkF m 8 #[.val (.int p1)] [])) _
        refine XS.iloadN X0.here hx rfl (hb hby d1_8) rfl ?_
        show Steps p.tables e below (s₁.setTop (mkF m 9 #[.val (.int p1)] [(.int p1)])) _
        refine XS.iconst X0.here hx rfl (hb hby d1_9) ?_
        exact kt)
    by_cases hc10_6 : p1 = (1 : Int32)
    · obtain ⟨T7, X7, e7, st7⟩ := getS2 X0 hx hZ hown (host := "") (Or.inl (hw _ (List.mem_of_getElem? (i := 30) rfl))) Via.refl e0 SOR (g := (mkF m 13 #[.val (.int p1)] [])) rfl (hb hby d1_13)
      have k8 : ∀ t, Steps p.tables e below (T7.setTop (mkF m 16 #[.val (.int p1)] [(.ref aOR)])) t → Steps p.tables e below (s₁.setTop (entryFrame m #[(.int p1)] 1)) t := fun t kt => k5 t (by
          show Steps p.tables e below (s₁.setTop (mkF m 10 #[.val (.int p1)] [(.int (1 : Int32)), (.int p1)])) _
          refine XS.icmpNo X0.here hx rfl (hb hby d1_10) rfl (teq hc10_6).2 ?_
          show Steps p.tables e below (s₁.setTop (mkF m 13 #[.val (.int p1)] [])) _
          refine st7 _ ?_
          exact kt)
      obtain ⟨fs, hr, hrun, hended, hW, hsame⟩ := X7.leave (v := some (.ref aOR)) (fun h => by rw [Bd.returns] at h; cases h)
      refine ⟨_, _, k8 _ ?_, hrun, hended, _, _, rfl, ?_, ⟨_, rfl⟩, hW, hsame.mono (by decide) (by decide)⟩
      · show Steps p.tables e below (T7.setTop (mkF m 16 #[.val (.int p1)] [(.ref aOR)])) _
        jvm_step X7.here [X7.here.top, hx, (hb hby d1_16), X7.method', Bd.returns, Value.isRef, FieldType.isReference]
        first | (intro acts; rw [hr _ acts rfl rfl rfl]) | rw [hr _ _ rfl rfl rfl]
        exact Steps.refl _
      · show Q_rm1 Z p1 aAND aOR aIMPLIES aEQUALS aDIFFERS aLESS aAT_MOST aGREATER aAT_LEAST aPLUS aMINUS aTIMES h0 n0 _ T7.heap _
        rw [e7]
        exact ⟨by simp only [own_pick, if_neg hc1_2, if_pos hc10_6], N0, rfl⟩
    · have k9 : ∀ t, Steps p.tables e below (s₁.setTop (mkF m 19 #[.val (.int p1)] [(.int (2 : Int32)), (.int p1)])) t → Steps p.tables e below (s₁.setTop (entryFrame m #[(.int p1)] 1)) t := fun t kt => k5 t (by
          show Steps p.tables e below (s₁.setTop (mkF m 10 #[.val (.int p1)] [(.int (1 : Int32)), (.int p1)])) _
          refine XS.icmpYes X0.here hx rfl (pc0 := 10) (pc' := 17) rfl (hb hby d1_10) rfl (feq hc10_6).2 (by decide) (by decide) ?_
          show Steps p.tables e below (s₁.setTop (mkF m 17 #[.val (.int p1)] [])) _
          refine XS.iloadN X0.here hx rfl (hb hby d1_17) rfl ?_
          show Steps p.tables e below (s₁.setTop (mkF m 18 #[.val (.int p1)] [(.int p1)])) _
          refine XS.iconst X0.here hx rfl (hb hby d1_18) ?_
          exact kt)
      by_cases hc19_10 : p1 = (2 : Int32)
      · obtain ⟨T11, X11, e11, st11⟩ := getS2 X0 hx hZ hown (host := "") (Or.inl (hw _ (List.mem_of_getElem? (i := 21) rfl))) Via.refl e0 SIMPLIES (g := (mkF m 22 #[.val (.int p1)] [])) rfl (hb hby d1_22)
        have k12 : ∀ t, Steps p.tables e below (T11.setTop (mkF m 25 #[.val (.int p1)] [(.ref aIMPLIES)])) t → Steps p.tables e below (s₁.setTop (entryFrame m #[(.int p1)] 1)) t := fun t kt => k9 t (by
            show Steps p.tables e below (s₁.setTop (mkF m 19 #[.val (.int p1)] [(.int (2 : Int32)), (.int p1)])) _
            refine XS.icmpNo X0.here hx rfl (hb hby d1_19) rfl (teq hc19_10).2 ?_
            show Steps p.tables e below (s₁.setTop (mkF m 22 #[.val (.int p1)] [])) _
            refine st11 _ ?_
            exact kt)
        obtain ⟨fs, hr, hrun, hended, hW, hsame⟩ := X11.leave (v := some (.ref aIMPLIES)) (fun h => by rw [Bd.returns] at h; cases h)
        refine ⟨_, _, k12 _ ?_, hrun, hended, _, _, rfl, ?_, ⟨_, rfl⟩, hW, hsame.mono (by decide) (by decide)⟩
        · show Steps p.tables e below (T11.setTop (mkF m 25 #[.val (.int p1)] [(.ref aIMPLIES)])) _
          jvm_step X11.here [X11.here.top, hx, (hb hby d1_25), X11.method', Bd.returns, Value.isRef, FieldType.isReference]
          first | (intro acts; rw [hr _ acts rfl rfl rfl]) | rw [hr _ _ rfl rfl rfl]
          exact Steps.refl _
        · show Q_rm1 Z p1 aAND aOR aIMPLIES aEQUALS aDIFFERS aLESS aAT_MOST aGREATER aAT_LEAST aPLUS aMINUS aTIMES h0 n0 _ T11.heap _
          rw [e11]
          exact ⟨by simp only [own_pick, if_neg hc1_2, if_neg hc10_6, if_pos hc19_10], N0, rfl⟩
      · have k13 : ∀ t, Steps p.tables e below (s₁.setTop (mkF m 28 #[.val (.int p1)] [(.int (3 : Int32)), (.int p1)])) t → Steps p.tables e below (s₁.setTop (entryFrame m #[(.int p1)] 1)) t := fun t kt => k9 t (by
            show Steps p.tables e below (s₁.setTop (mkF m 19 #[.val (.int p1)] [(.int (2 : Int32)), (.int p1)])) _
            refine XS.icmpYes X0.here hx rfl (pc0 := 19) (pc' := 26) rfl (hb hby d1_19) rfl (feq hc19_10).2 (by decide) (by decide) ?_
            show Steps p.tables e below (s₁.setTop (mkF m 26 #[.val (.int p1)] [])) _
            refine XS.iloadN X0.here hx rfl (hb hby d1_26) rfl ?_
            show Steps p.tables e below (s₁.setTop (mkF m 27 #[.val (.int p1)] [(.int p1)])) _
            refine XS.iconst X0.here hx rfl (hb hby d1_27) ?_
            exact kt)
        by_cases hc28_14 : p1 = (3 : Int32)
        · obtain ⟨T15, X15, e15, st15⟩ := getS2 X0 hx hZ hown (host := "") (Or.inl (hw _ (List.mem_of_getElem? (i := 19) rfl))) Via.refl e0 SEQUALS (g := (mkF m 31 #[.val (.int p1)] [])) rfl (hb hby d1_31)
          have k16 : ∀ t, Steps p.tables e below (T15.setTop (mkF m 34 #[.val (.int p1)] [(.ref aEQUALS)])) t → Steps p.tables e below (s₁.setTop (entryFrame m #[(.int p1)] 1)) t := fun t kt => k13 t (by
              show Steps p.tables e below (s₁.setTop (mkF m 28 #[.val (.int p1)] [(.int (3 : Int32)), (.int p1)])) _
              refine XS.icmpNo X0.here hx rfl (hb hby d1_28) rfl (teq hc28_14).2 ?_
              show Steps p.tables e below (s₁.setTop (mkF m 31 #[.val (.int p1)] [])) _
              refine st15 _ ?_
              exact kt)
          obtain ⟨fs, hr, hrun, hended, hW, hsame⟩ := X15.leave (v := some (.ref aEQUALS)) (fun h => by rw [Bd.returns] at h; cases h)
          refine ⟨_, _, k16 _ ?_, hrun, hended, _, _, rfl, ?_, ⟨_, rfl⟩, hW, hsame.mono (by decide) (by decide)⟩
          · show Steps p.tables e below (T15.setTop (mkF m 34 #[.val (.int p1)] [(.ref aEQUALS)])) _
            jvm_step X15.here [X15.here.top, hx, (hb hby d1_34), X15.method', Bd.returns, Value.isRef, FieldType.isReference]
            first | (intro acts; rw [hr _ acts rfl rfl rfl]) | rw [hr _ _ rfl rfl rfl]
            exact Steps.refl _
          · show Q_rm1 Z p1 aAND aOR aIMPLIES aEQUALS aDIFFERS aLESS aAT_MOST aGREATER aAT_LEAST aPLUS aMINUS aTIMES h0 n0 _ T15.heap _
            rw [e15]
            exact ⟨by simp only [own_pick, if_neg hc1_2, if_neg hc10_6, if_neg hc19_10, if_pos hc28_14], N0, rfl⟩
        · have k17 : ∀ t, Steps p.tables e below (s₁.setTop (mkF m 37 #[.val (.int p1)] [(.int (4 : Int32)), (.int p1)])) t → Steps p.tables e below (s₁.setTop (entryFrame m #[(.int p1)] 1)) t := fun t kt => k13 t (by
              show Steps p.tables e below (s₁.setTop (mkF m 28 #[.val (.int p1)] [(.int (3 : Int32)), (.int p1)])) _
              refine XS.icmpYes X0.here hx rfl (pc0 := 28) (pc' := 35) rfl (hb hby d1_28) rfl (feq hc28_14).2 (by decide) (by decide) ?_
              show Steps p.tables e below (s₁.setTop (mkF m 35 #[.val (.int p1)] [])) _
              refine XS.iloadN X0.here hx rfl (hb hby d1_35) rfl ?_
              show Steps p.tables e below (s₁.setTop (mkF m 36 #[.val (.int p1)] [(.int p1)])) _
              refine XS.iconst X0.here hx rfl (hb hby d1_36) ?_
              exact kt)
          by_cases hc37_18 : p1 = (4 : Int32)
          · obtain ⟨T19, X19, e19, st19⟩ := getS2 X0 hx hZ hown (host := "") (Or.inl (hw _ (List.mem_of_getElem? (i := 26) rfl))) Via.refl e0 SDIFFERS (g := (mkF m 40 #[.val (.int p1)] [])) rfl (hb hby d1_40)
            have k20 : ∀ t, Steps p.tables e below (T19.setTop (mkF m 43 #[.val (.int p1)] [(.ref aDIFFERS)])) t → Steps p.tables e below (s₁.setTop (entryFrame m #[(.int p1)] 1)) t := fun t kt => k17 t (by
                show Steps p.tables e below (s₁.setTop (mkF m 37 #[.val (.int p1)] [(.int (4 : Int32)), (.int p1)])) _
                refine XS.icmpNo X0.here hx rfl (hb hby d1_37) rfl (teq hc37_18).2 ?_
                show Steps p.tables e below (s₁.setTop (mkF m 40 #[.val (.int p1)] [])) _
                refine st19 _ ?_
                exact kt)
            obtain ⟨fs, hr, hrun, hended, hW, hsame⟩ := X19.leave (v := some (.ref aDIFFERS)) (fun h => by rw [Bd.returns] at h; cases h)
            refine ⟨_, _, k20 _ ?_, hrun, hended, _, _, rfl, ?_, ⟨_, rfl⟩, hW, hsame.mono (by decide) (by decide)⟩
            · show Steps p.tables e below (T19.setTop (mkF m 43 #[.val (.int p1)] [(.ref aDIFFERS)])) _
              jvm_step X19.here [X19.here.top, hx, (hb hby d1_43), X19.method', Bd.returns, Value.isRef, FieldType.isReference]
              first | (intro acts; rw [hr _ acts rfl rfl rfl]) | rw [hr _ _ rfl rfl rfl]
              exact Steps.refl _
            · show Q_rm1 Z p1 aAND aOR aIMPLIES aEQUALS aDIFFERS aLESS aAT_MOST aGREATER aAT_LEAST aPLUS aMINUS aTIMES h0 n0 _ T19.heap _
              rw [e19]
              exact ⟨by simp only [own_pick, if_neg hc1_2, if_neg hc10_6, if_neg hc19_10, if_neg hc28_14, if_pos hc37_18], N0, rfl⟩
          · have k21 : ∀ t, Steps p.tables e below (s₁.setTop (mkF m 46 #[.val (.int p1)] [(.int (5 : Int32)), (.int p1)])) t → Steps p.tables e below (s₁.setTop (entryFrame m #[(.int p1)] 1)) t := fun t kt => k17 t (by
                show Steps p.tables e below (s₁.setTop (mkF m 37 #[.val (.int p1)] [(.int (4 : Int32)), (.int p1)])) _
                refine XS.icmpYes X0.here hx rfl (pc0 := 37) (pc' := 44) rfl (hb hby d1_37) rfl (feq hc37_18).2 (by decide) (by decide) ?_
                show Steps p.tables e below (s₁.setTop (mkF m 44 #[.val (.int p1)] [])) _
                refine XS.iloadN X0.here hx rfl (hb hby d1_44) rfl ?_
                show Steps p.tables e below (s₁.setTop (mkF m 45 #[.val (.int p1)] [(.int p1)])) _
                refine XS.iconst X0.here hx rfl (hb hby d1_45) ?_
                exact kt)
            by_cases hc46_22 : p1 = (5 : Int32)
            · obtain ⟨T23, X23, e23, st23⟩ := getS2 X0 hx hZ hown (host := "") (Or.inl (hw _ (List.mem_of_getElem? (i := 36) rfl))) Via.refl e0 SLESS (g := (mkF m 49 #[.val (.int p1)] [])) rfl (hb hby d1_49)
              have k24 : ∀ t, Steps p.tables e below (T23.setTop (mkF m 52 #[.val (.int p1)] [(.ref aLESS)])) t → Steps p.tables e below (s₁.setTop (entryFrame m #[(.int p1)] 1)) t := fun t kt => k21 t (by
                  show Steps p.tables e below (s₁.setTop (mkF m 46 #[.val (.int p1)] [(.int (5 : Int32)), (.int p1)])) _
                  refine XS.icmpNo X0.here hx rfl (hb hby d1_46) rfl (teq hc46_22).2 ?_
                  show Steps p.tables e below (s₁.setTop (mkF m 49 #[.val (.int p1)] [])) _
                  refine st23 _ ?_
                  exact kt)
              obtain ⟨fs, hr, hrun, hended, hW, hsame⟩ := X23.leave (v := some (.ref aLESS)) (fun h => by rw [Bd.returns] at h; cases h)
              refine ⟨_, _, k24 _ ?_, hrun, hended, _, _, rfl, ?_, ⟨_, rfl⟩, hW, hsame.mono (by decide) (by decide)⟩
              · show Steps p.tables e below (T23.setTop (mkF m 52 #[.val (.int p1)] [(.ref aLESS)])) _
                jvm_step X23.here [X23.here.top, hx, (hb hby d1_52), X23.method', Bd.returns, Value.isRef, FieldType.isReference]
                first | (intro acts; rw [hr _ acts rfl rfl rfl]) | rw [hr _ _ rfl rfl rfl]
                exact Steps.refl _
              · show Q_rm1 Z p1 aAND aOR aIMPLIES aEQUALS aDIFFERS aLESS aAT_MOST aGREATER aAT_LEAST aPLUS aMINUS aTIMES h0 n0 _ T23.heap _
                rw [e23]
                exact ⟨by simp only [own_pick, if_neg hc1_2, if_neg hc10_6, if_neg hc19_10, if_neg hc28_14, if_neg hc37_18, if_pos hc46_22], N0, rfl⟩
            · have k25 : ∀ t, Steps p.tables e below (s₁.setTop (mkF m 56 #[.val (.int p1)] [(.int (6 : Int32)), (.int p1)])) t → Steps p.tables e below (s₁.setTop (entryFrame m #[(.int p1)] 1)) t := fun t kt => k21 t (by
                  show Steps p.tables e below (s₁.setTop (mkF m 46 #[.val (.int p1)] [(.int (5 : Int32)), (.int p1)])) _
                  refine XS.icmpYes X0.here hx rfl (pc0 := 46) (pc' := 53) rfl (hb hby d1_46) rfl (feq hc46_22).2 (by decide) (by decide) ?_
                  show Steps p.tables e below (s₁.setTop (mkF m 53 #[.val (.int p1)] [])) _
                  refine XS.iloadN X0.here hx rfl (hb hby d1_53) rfl ?_
                  show Steps p.tables e below (s₁.setTop (mkF m 54 #[.val (.int p1)] [(.int p1)])) _
                  refine XS.bipush X0.here hx rfl (hb hby d1_54) ?_
                  exact kt)
              by_cases hc56_26 : p1 = (6 : Int32)
              · obtain ⟨T27, X27, e27, st27⟩ := getS2 X0 hx hZ hown (host := "") (Or.inl (hw _ (List.mem_of_getElem? (i := 34) rfl))) Via.refl e0 SAT_MOST (g := (mkF m 59 #[.val (.int p1)] [])) rfl (hb hby d1_59)
                have k28 : ∀ t, Steps p.tables e below (T27.setTop (mkF m 62 #[.val (.int p1)] [(.ref aAT_MOST)])) t → Steps p.tables e below (s₁.setTop (entryFrame m #[(.int p1)] 1)) t := fun t kt => k25 t (by
                    show Steps p.tables e below (s₁.setTop (mkF m 56 #[.val (.int p1)] [(.int (6 : Int32)), (.int p1)])) _
                    refine XS.icmpNo X0.here hx rfl (hb hby d1_56) rfl (teq hc56_26).2 ?_
                    show Steps p.tables e below (s₁.setTop (mkF m 59 #[.val (.int p1)] [])) _
                    refine st27 _ ?_
                    exact kt)
                obtain ⟨fs, hr, hrun, hended, hW, hsame⟩ := X27.leave (v := some (.ref aAT_MOST)) (fun h => by rw [Bd.returns] at h; cases h)
                refine ⟨_, _, k28 _ ?_, hrun, hended, _, _, rfl, ?_, ⟨_, rfl⟩, hW, hsame.mono (by decide) (by decide)⟩
                · show Steps p.tables e below (T27.setTop (mkF m 62 #[.val (.int p1)] [(.ref aAT_MOST)])) _
                  jvm_step X27.here [X27.here.top, hx, (hb hby d1_62), X27.method', Bd.returns, Value.isRef, FieldType.isReference]
                  first | (intro acts; rw [hr _ acts rfl rfl rfl]) | rw [hr _ _ rfl rfl rfl]
                  exact Steps.refl _
                · show Q_rm1 Z p1 aAND aOR aIMPLIES aEQUALS aDIFFERS aLESS aAT_MOST aGREATER aAT_LEAST aPLUS aMINUS aTIMES h0 n0 _ T27.heap _
                  rw [e27]
                  exact ⟨by simp only [own_pick, if_neg hc1_2, if_neg hc10_6, if_neg hc19_10, if_neg hc28_14, if_neg hc37_18, if_neg hc46_22, if_pos hc56_26], N0, rfl⟩
              · have k29 : ∀ t, Steps p.tables e below (s₁.setTop (mkF m 66 #[.val (.int p1)] [(.int (7 : Int32)), (.int p1)])) t → Steps p.tables e below (s₁.setTop (entryFrame m #[(.int p1)] 1)) t := fun t kt => k25 t (by
                    show Steps p.tables e below (s₁.setTop (mkF m 56 #[.val (.int p1)] [(.int (6 : Int32)), (.int p1)])) _
                    refine XS.icmpYes X0.here hx rfl (pc0 := 56) (pc' := 63) rfl (hb hby d1_56) rfl (feq hc56_26).2 (by decide) (by decide) ?_
                    show Steps p.tables e below (s₁.setTop (mkF m 63 #[.val (.int p1)] [])) _
                    refine XS.iloadN X0.here hx rfl (hb hby d1_63) rfl ?_
                    show Steps p.tables e below (s₁.setTop (mkF m 64 #[.val (.int p1)] [(.int p1)])) _
                    refine XS.bipush X0.here hx rfl (hb hby d1_64) ?_
                    exact kt)
                by_cases hc66_30 : p1 = (7 : Int32)
                · obtain ⟨T31, X31, e31, st31⟩ := getS2 X0 hx hZ hown (host := "") (Or.inl (hw _ (List.mem_of_getElem? (i := 23) rfl))) Via.refl e0 SGREATER (g := (mkF m 69 #[.val (.int p1)] [])) rfl (hb hby d1_69)
                  have k32 : ∀ t, Steps p.tables e below (T31.setTop (mkF m 72 #[.val (.int p1)] [(.ref aGREATER)])) t → Steps p.tables e below (s₁.setTop (entryFrame m #[(.int p1)] 1)) t := fun t kt => k29 t (by
                      show Steps p.tables e below (s₁.setTop (mkF m 66 #[.val (.int p1)] [(.int (7 : Int32)), (.int p1)])) _
                      refine XS.icmpNo X0.here hx rfl (hb hby d1_66) rfl (teq hc66_30).2 ?_
                      show Steps p.tables e below (s₁.setTop (mkF m 69 #[.val (.int p1)] [])) _
                      refine st31 _ ?_
                      exact kt)
                  obtain ⟨fs, hr, hrun, hended, hW, hsame⟩ := X31.leave (v := some (.ref aGREATER)) (fun h => by rw [Bd.returns] at h; cases h)
                  refine ⟨_, _, k32 _ ?_, hrun, hended, _, _, rfl, ?_, ⟨_, rfl⟩, hW, hsame.mono (by decide) (by decide)⟩
                  · show Steps p.tables e below (T31.setTop (mkF m 72 #[.val (.int p1)] [(.ref aGREATER)])) _
                    jvm_step X31.here [X31.here.top, hx, (hb hby d1_72), X31.method', Bd.returns, Value.isRef, FieldType.isReference]
                    first | (intro acts; rw [hr _ acts rfl rfl rfl]) | rw [hr _ _ rfl rfl rfl]
                    exact Steps.refl _
                  · show Q_rm1 Z p1 aAND aOR aIMPLIES aEQUALS aDIFFERS aLESS aAT_MOST aGREATER aAT_LEAST aPLUS aMINUS aTIMES h0 n0 _ T31.heap _
                    rw [e31]
                    exact ⟨by simp only [own_pick, if_neg hc1_2, if_neg hc10_6, if_neg hc19_10, if_neg hc28_14, if_neg hc37_18, if_neg hc46_22, if_neg hc56_26, if_pos hc66_30], N0, rfl⟩
                · have k33 : ∀ t, Steps p.tables e below (s₁.setTop (mkF m 76 #[.val (.int p1)] [(.int (8 : Int32)), (.int p1)])) t → Steps p.tables e below (s₁.setTop (entryFrame m #[(.int p1)] 1)) t := fun t kt => k29 t (by
                      show Steps p.tables e below (s₁.setTop (mkF m 66 #[.val (.int p1)] [(.int (7 : Int32)), (.int p1)])) _
                      refine XS.icmpYes X0.here hx rfl (pc0 := 66) (pc' := 73) rfl (hb hby d1_66) rfl (feq hc66_30).2 (by decide) (by decide) ?_
                      show Steps p.tables e below (s₁.setTop (mkF m 73 #[.val (.int p1)] [])) _
                      refine XS.iloadN X0.here hx rfl (hb hby d1_73) rfl ?_
                      show Steps p.tables e below (s₁.setTop (mkF m 74 #[.val (.int p1)] [(.int p1)])) _
                      refine XS.bipush X0.here hx rfl (hb hby d1_74) ?_
                      exact kt)
                  by_cases hc76_34 : p1 = (8 : Int32)
                  · obtain ⟨T35, X35, e35, st35⟩ := getS2 X0 hx hZ hown (host := "") (Or.inl (hw _ (List.mem_of_getElem? (i := 28) rfl))) Via.refl e0 SAT_LEAST (g := (mkF m 79 #[.val (.int p1)] [])) rfl (hb hby d1_79)
                    have k36 : ∀ t, Steps p.tables e below (T35.setTop (mkF m 82 #[.val (.int p1)] [(.ref aAT_LEAST)])) t → Steps p.tables e below (s₁.setTop (entryFrame m #[(.int p1)] 1)) t := fun t kt => k33 t (by
                        show Steps p.tables e below (s₁.setTop (mkF m 76 #[.val (.int p1)] [(.int (8 : Int32)), (.int p1)])) _
                        refine XS.icmpNo X0.here hx rfl (hb hby d1_76) rfl (teq hc76_34).2 ?_
                        show Steps p.tables e below (s₁.setTop (mkF m 79 #[.val (.int p1)] [])) _
                        refine st35 _ ?_
                        exact kt)
                    obtain ⟨fs, hr, hrun, hended, hW, hsame⟩ := X35.leave (v := some (.ref aAT_LEAST)) (fun h => by rw [Bd.returns] at h; cases h)
                    refine ⟨_, _, k36 _ ?_, hrun, hended, _, _, rfl, ?_, ⟨_, rfl⟩, hW, hsame.mono (by decide) (by decide)⟩
                    · show Steps p.tables e below (T35.setTop (mkF m 82 #[.val (.int p1)] [(.ref aAT_LEAST)])) _
                      jvm_step X35.here [X35.here.top, hx, (hb hby d1_82), X35.method', Bd.returns, Value.isRef, FieldType.isReference]
                      first | (intro acts; rw [hr _ acts rfl rfl rfl]) | rw [hr _ _ rfl rfl rfl]
                      exact Steps.refl _
                    · show Q_rm1 Z p1 aAND aOR aIMPLIES aEQUALS aDIFFERS aLESS aAT_MOST aGREATER aAT_LEAST aPLUS aMINUS aTIMES h0 n0 _ T35.heap _
                      rw [e35]
                      exact ⟨by simp only [own_pick, if_neg hc1_2, if_neg hc10_6, if_neg hc19_10, if_neg hc28_14, if_neg hc37_18, if_neg hc46_22, if_neg hc56_26, if_neg hc66_30, if_pos hc76_34], N0, rfl⟩
                  · have k37 : ∀ t, Steps p.tables e below (s₁.setTop (mkF m 86 #[.val (.int p1)] [(.int (9 : Int32)), (.int p1)])) t → Steps p.tables e below (s₁.setTop (entryFrame m #[(.int p1)] 1)) t := fun t kt => k33 t (by
                        show Steps p.tables e below (s₁.setTop (mkF m 76 #[.val (.int p1)] [(.int (8 : Int32)), (.int p1)])) _
                        refine XS.icmpYes X0.here hx rfl (pc0 := 76) (pc' := 83) rfl (hb hby d1_76) rfl (feq hc76_34).2 (by decide) (by decide) ?_
                        show Steps p.tables e below (s₁.setTop (mkF m 83 #[.val (.int p1)] [])) _
                        refine XS.iloadN X0.here hx rfl (hb hby d1_83) rfl ?_
                        show Steps p.tables e below (s₁.setTop (mkF m 84 #[.val (.int p1)] [(.int p1)])) _
                        refine XS.bipush X0.here hx rfl (hb hby d1_84) ?_
                        exact kt)
                    by_cases hc86_38 : p1 = (9 : Int32)
                    · obtain ⟨T39, X39, e39, st39⟩ := getS2 X0 hx hZ hown (host := "") (Or.inl (hw _ (List.mem_of_getElem? (i := 33) rfl))) Via.refl e0 SPLUS (g := (mkF m 89 #[.val (.int p1)] [])) rfl (hb hby d1_89)
                      have k40 : ∀ t, Steps p.tables e below (T39.setTop (mkF m 92 #[.val (.int p1)] [(.ref aPLUS)])) t → Steps p.tables e below (s₁.setTop (entryFrame m #[(.int p1)] 1)) t := fun t kt => k37 t (by
                          show Steps p.tables e below (s₁.setTop (mkF m 86 #[.val (.int p1)] [(.int (9 : Int32)), (.int p1)])) _
                          refine XS.icmpNo X0.here hx rfl (hb hby d1_86) rfl (teq hc86_38).2 ?_
                          show Steps p.tables e below (s₁.setTop (mkF m 89 #[.val (.int p1)] [])) _
                          refine st39 _ ?_
                          exact kt)
                      obtain ⟨fs, hr, hrun, hended, hW, hsame⟩ := X39.leave (v := some (.ref aPLUS)) (fun h => by rw [Bd.returns] at h; cases h)
                      refine ⟨_, _, k40 _ ?_, hrun, hended, _, _, rfl, ?_, ⟨_, rfl⟩, hW, hsame.mono (by decide) (by decide)⟩
                      · show Steps p.tables e below (T39.setTop (mkF m 92 #[.val (.int p1)] [(.ref aPLUS)])) _
                        jvm_step X39.here [X39.here.top, hx, (hb hby d1_92), X39.method', Bd.returns, Value.isRef, FieldType.isReference]
                        first | (intro acts; rw [hr _ acts rfl rfl rfl]) | rw [hr _ _ rfl rfl rfl]
                        exact Steps.refl _
                      · show Q_rm1 Z p1 aAND aOR aIMPLIES aEQUALS aDIFFERS aLESS aAT_MOST aGREATER aAT_LEAST aPLUS aMINUS aTIMES h0 n0 _ T39.heap _
                        rw [e39]
                        exact ⟨by simp only [own_pick, if_neg hc1_2, if_neg hc10_6, if_neg hc19_10, if_neg hc28_14, if_neg hc37_18, if_neg hc46_22, if_neg hc56_26, if_neg hc66_30, if_neg hc76_34, if_pos hc86_38], N0, rfl⟩
                    · have k41 : ∀ t, Steps p.tables e below (s₁.setTop (mkF m 96 #[.val (.int p1)] [(.int (10 : Int32)), (.int p1)])) t → Steps p.tables e below (s₁.setTop (entryFrame m #[(.int p1)] 1)) t := fun t kt => k37 t (by
                          show Steps p.tables e below (s₁.setTop (mkF m 86 #[.val (.int p1)] [(.int (9 : Int32)), (.int p1)])) _
                          refine XS.icmpYes X0.here hx rfl (pc0 := 86) (pc' := 93) rfl (hb hby d1_86) rfl (feq hc86_38).2 (by decide) (by decide) ?_
                          show Steps p.tables e below (s₁.setTop (mkF m 93 #[.val (.int p1)] [])) _
                          refine XS.iloadN X0.here hx rfl (hb hby d1_93) rfl ?_
                          show Steps p.tables e below (s₁.setTop (mkF m 94 #[.val (.int p1)] [(.int p1)])) _
                          refine XS.bipush X0.here hx rfl (hb hby d1_94) ?_
                          exact kt)
                      by_cases hc96_42 : p1 = (10 : Int32)
                      · obtain ⟨T43, X43, e43, st43⟩ := getS2 X0 hx hZ hown (host := "") (Or.inl (hw _ (List.mem_of_getElem? (i := 32) rfl))) Via.refl e0 SMINUS (g := (mkF m 99 #[.val (.int p1)] [])) rfl (hb hby d1_99)
                        have k44 : ∀ t, Steps p.tables e below (T43.setTop (mkF m 102 #[.val (.int p1)] [(.ref aMINUS)])) t → Steps p.tables e below (s₁.setTop (entryFrame m #[(.int p1)] 1)) t := fun t kt => k41 t (by
                            show Steps p.tables e below (s₁.setTop (mkF m 96 #[.val (.int p1)] [(.int (10 : Int32)), (.int p1)])) _
                            refine XS.icmpNo X0.here hx rfl (hb hby d1_96) rfl (teq hc96_42).2 ?_
                            show Steps p.tables e below (s₁.setTop (mkF m 99 #[.val (.int p1)] [])) _
                            refine st43 _ ?_
                            exact kt)
                        obtain ⟨fs, hr, hrun, hended, hW, hsame⟩ := X43.leave (v := some (.ref aMINUS)) (fun h => by rw [Bd.returns] at h; cases h)
                        refine ⟨_, _, k44 _ ?_, hrun, hended, _, _, rfl, ?_, ⟨_, rfl⟩, hW, hsame.mono (by decide) (by decide)⟩
                        · show Steps p.tables e below (T43.setTop (mkF m 102 #[.val (.int p1)] [(.ref aMINUS)])) _
                          jvm_step X43.here [X43.here.top, hx, (hb hby d1_102), X43.method', Bd.returns, Value.isRef, FieldType.isReference]
                          first | (intro acts; rw [hr _ acts rfl rfl rfl]) | rw [hr _ _ rfl rfl rfl]
                          exact Steps.refl _
                        · show Q_rm1 Z p1 aAND aOR aIMPLIES aEQUALS aDIFFERS aLESS aAT_MOST aGREATER aAT_LEAST aPLUS aMINUS aTIMES h0 n0 _ T43.heap _
                          rw [e43]
                          exact ⟨by simp only [own_pick, if_neg hc1_2, if_neg hc10_6, if_neg hc19_10, if_neg hc28_14, if_neg hc37_18, if_neg hc46_22, if_neg hc56_26, if_neg hc66_30, if_neg hc76_34, if_neg hc86_38, if_pos hc96_42], N0, rfl⟩
                      · obtain ⟨T45, X45, e45, st45⟩ := getS2 X0 hx hZ hown (host := "") (Or.inl (hw _ (List.mem_of_getElem? (i := 25) rfl))) Via.refl e0 STIMES (g := (mkF m 103 #[.val (.int p1)] [])) rfl (hb hby d1_103)
                        have k46 : ∀ t, Steps p.tables e below (T45.setTop (mkF m 106 #[.val (.int p1)] [(.ref aTIMES)])) t → Steps p.tables e below (s₁.setTop (entryFrame m #[(.int p1)] 1)) t := fun t kt => k41 t (by
                            show Steps p.tables e below (s₁.setTop (mkF m 96 #[.val (.int p1)] [(.int (10 : Int32)), (.int p1)])) _
                            refine XS.icmpYes X0.here hx rfl (pc0 := 96) (pc' := 103) rfl (hb hby d1_96) rfl (feq hc96_42).2 (by decide) (by decide) ?_
                            show Steps p.tables e below (s₁.setTop (mkF m 103 #[.val (.int p1)] [])) _
                            refine st45 _ ?_
                            exact kt)
                        obtain ⟨fs, hr, hrun, hended, hW, hsame⟩ := X45.leave (v := some (.ref aTIMES)) (fun h => by rw [Bd.returns] at h; cases h)
                        refine ⟨_, _, k46 _ ?_, hrun, hended, _, _, rfl, ?_, ⟨_, rfl⟩, hW, hsame.mono (by decide) (by decide)⟩
                        · show Steps p.tables e below (T45.setTop (mkF m 106 #[.val (.int p1)] [(.ref aTIMES)])) _
                          jvm_step X45.here [X45.here.top, hx, (hb hby d1_106), X45.method', Bd.returns, Value.isRef, FieldType.isReference]
                          first | (intro acts; rw [hr _ acts rfl rfl rfl]) | rw [hr _ _ rfl rfl rfl]
                          exact Steps.refl _
                        · show Q_rm1 Z p1 aAND aOR aIMPLIES aEQUALS aDIFFERS aLESS aAT_MOST aGREATER aAT_LEAST aPLUS aMINUS aTIMES h0 n0 _ T45.heap _
                          rw [e45]
                          exact ⟨by simp only [own_pick, if_neg hc1_2, if_neg hc10_6, if_neg hc19_10, if_neg hc28_14, if_neg hc37_18, if_neg hc46_22, if_neg hc56_26, if_neg hc66_30, if_neg hc76_34, if_neg hc86_38, if_neg hc96_42], N0, rfl⟩
theorem d2_0 : decode prog_47_method_4_code 0 = .ok (.aload_n 0, 1) := by decide +kernel
theorem d2_1 : decode prog_47_method_4_code 1 = .ok (.getstatic 31, 3) := by decide +kernel
theorem d2_4 : decode prog_47_method_4_code 4 = .ok (.if_acmp .eq 17, 3) := by decide +kernel
theorem d2_21 : decode prog_47_method_4_code 21 = .ok (.iconst 1, 1) := by decide +kernel
theorem d2_22 : decode prog_47_method_4_code 22 = .ok (.goto 4, 3) := by decide +kernel
theorem d2_26 : decode prog_47_method_4_code 26 = .ok (.ireturn, 1) := by decide +kernel
theorem d2_7 : decode prog_47_method_4_code 7 = .ok (.aload_n 0, 1) := by decide +kernel
theorem d2_8 : decode prog_47_method_4_code 8 = .ok (.getstatic 34, 3) := by decide +kernel
theorem d2_11 : decode prog_47_method_4_code 11 = .ok (.if_acmp .eq 10, 3) := by decide +kernel
theorem d2_14 : decode prog_47_method_4_code 14 = .ok (.aload_n 0, 1) := by decide +kernel
theorem d2_15 : decode prog_47_method_4_code 15 = .ok (.getstatic 37, 3) := by decide +kernel
theorem d2_18 : decode prog_47_method_4_code 18 = .ok (.if_acmp .ne 7, 3) := by decide +kernel
theorem d2_25 : decode prog_47_method_4_code 25 = .ok (.iconst 0, 1) := by decide +kernel
theorem pn_c1 : plainName "com/example/dasv/dasv/model/Expression$Operator" = true := by first | (simp [plainName, overriddenIn]; done) | decide +kernel
theorem ef_rm2 (m : MethodId) (x0 : Addr) : entryFrame m #[(.ref x0)] 1 = mkF m 0 #[.val (.ref x0)] [] := by first | (simp [entryFrame, mkF, argsToLocals, Value.category]; done) | rfl
def Q_rm2 (Z : State) (a1 aP aM aT : Addr) (h0 : Heap) (n0 : Nat) (v : Option Value) (h : Heap) (L : List Loc) : Prop := v = some (.int (own_isArith a1 aP aM aT)) ∧ Fr n0 L ∧ h = h0
set_option maxRecDepth 65536 in
set_option maxHeartbeats 40000000 in
theorem rm2 (l : Launch) (Z : State) (a0 : Array Value) (hw : ∀ d ∈ tables_1, d.before a0 Z = true) (ws : List Jvm.Cond) (a1 aPLUS aMINUS aTIMES : Addr) (h0 : Heap) (n0 : Nat) (Z0 : n0 ≤ h0.size) (SPLUS : Sta Z h0 "com/example/dasv/dasv/model/Expression$Operator" "PLUS" "Lcom/example/dasv/dasv/model/Expression$Operator;" (.ref aPLUS)) (SMINUS : Sta Z h0 "com/example/dasv/dasv/model/Expression$Operator" "MINUS" "Lcom/example/dasv/dasv/model/Expression$Operator;" (.ref aMINUS)) (STIMES : Sta Z h0 "com/example/dasv/dasv/model/Expression$Operator" "TIMES" "Lcom/example/dasv/dasv/model/Expression$Operator;" (.ref aTIMES)) :
    MetFree l (⟨"com/example/dasv/dasv/model/Expression$Operator", "isArithmetic", "()Z"⟩ : MethodName) (head1 (Jvm.Cond.code (⟨"com/example/dasv/dasv/model/Expression$Operator", "isArithmetic", "()Z"⟩ : MethodName) prog_47_method_4_code 1 (some .boolean) :: ws) ({ frames := 0, cells := 0, slots := 0, locals := 0 } : Room)) (fun a U => a = #[(.ref a1)] ∧ Z.Warmed39 U.vm ∧ U.heap = h0) (fun _ _ _ _ _ => True) (fun _ U o U' => ∃ v L, o = .returned v ∧ Q_rm2 Z a1 aPLUS aMINUS aTIMES h0 n0 v U'.heap L ∧ FrameEnd U o U' L ({ frames := 0, cells := 0, slots := 0, locals := 0 } : Room).cells ({ frames := 0, cells := 0, slots := 0, locals := 0 } : Room).slots) := by
  refine MetFree.of_bodySF (plainFor_of_name pn_c1) hisR ?_
  intro p e s m args below meth c s₁ Bd hml0 hP hK
  obtain ⟨rfl, hZ, hh⟩ := hP
  have hx := Bd.exec
  have hby := Bd.bytes
  have hml : c.maxLocals = 1 := hml0
  have hown : s.vm.findClass "com/example/dasv/dasv/model/Expression$Operator" = some m.cls := findClass_of_methodNamed Bd.named
  have hnm := (name_of_methodNamed Bd.named Bd.method).1
  have X0 : Stand p l e ({ frames := 0, cells := 0, slots := 0, locals := 0 } : Room) s m #[(.ref a1)] below meth c s₁ [] 0 0 := Stand.of_body Bd
  have e0 : s₁.heap = h0 := by rw [← hh, Bd.state]; rfl
  have N0 := Fr.nil n0
  have pre0 : ∀ t, Steps p.tables e below (s₁.setTop (mkF m 0 #[.val (.ref a1)] [])) t → Steps p.tables e below (s₁.setTop (entryFrame m #[(.ref a1)] 1)) t := fun t k => castTop (ef_rm2 m a1) k
  obtain ⟨T47, X47, e47, st47⟩ := getS2 X0 hx hZ hown (host := "") (Or.inl (hw _ (List.mem_of_getElem? (i := 13) rfl))) Via.refl e0 SPLUS (g := (mkF m 1 #[.val (.ref a1)] [(.ref a1)])) rfl (hb hby d2_1)
  have k48 : ∀ t, Steps p.tables e below (T47.setTop (mkF m 4 #[.val (.ref a1)] [(.ref aPLUS), (.ref a1)])) t → Steps p.tables e below (s₁.setTop (entryFrame m #[(.ref a1)] 1)) t := fun t kt => pre0 t (by
      show Steps p.tables e below (s₁.setTop (mkF m 0 #[.val (.ref a1)] [])) _
      refine XS.aloadN X0.here hx rfl (hb hby d2_0) rfl rfl ?_
      show Steps p.tables e below (s₁.setTop (mkF m 1 #[.val (.ref a1)] [(.ref a1)])) _
      refine st47 _ ?_
      exact kt)
  by_cases hc4_49 : a1 = aPLUS
  · have k50 : ∀ t, Steps p.tables e below (T47.setTop (mkF m 26 #[.val (.ref a1)] [(.int (1 : Int32))])) t → Steps p.tables e below (s₁.setTop (entryFrame m #[(.ref a1)] 1)) t := fun t kt => k48 t (by
        show Steps p.tables e below (T47.setTop (mkF m 4 #[.val (.ref a1)] [(.ref aPLUS), (.ref a1)])) _
        refine Jvm.RoadKit.acmp (g := (mkF m 4 #[.val (.ref a1)] [(.ref aPLUS), (.ref a1)])) X47 hx rfl rfl rfl (pc0 := 4) (pc' := 21) (same := true) rfl (hb hby d2_4) rfl (decide_eq_true (congrArg Value.ref hc4_49)) (by decide) (by decide) ?_
        show Steps p.tables e below (T47.setTop (mkF m 21 #[.val (.ref a1)] [])) _
        refine XS.iconst X47.here hx rfl (hb hby d2_21) ?_
        show Steps p.tables e below (T47.setTop (mkF m 22 #[.val (.ref a1)] [(.int (1 : Int32))])) _
        refine XS.goto X47.here hx rfl (pc0 := 22) (pc' := 26) rfl (hb hby d2_22) (by decide) (by decide) ?_
        exact kt)
    obtain ⟨fs, hr, hrun, hended, hW, hsame⟩ := X47.leave (v := some (.int (1 : Int32))) (fun h => by rw [Bd.returns] at h; cases h)
    refine ⟨_, _, k50 _ ?_, hrun, hended, _, _, rfl, ?_, ⟨_, rfl⟩, hW, hsame.mono (by decide) (by decide)⟩
    · show Steps p.tables e below (T47.setTop (mkF m 26 #[.val (.ref a1)] [(.int (1 : Int32))])) _
      exact retN X47 hx (t := .boolean) Bd.returns (by simp) (hb hby d2_26) hr
    · show Q_rm2 Z a1 aPLUS aMINUS aTIMES h0 n0 _ T47.heap _
      rw [e47]
      exact ⟨by simp [own_isArith, hc4_49], N0, rfl⟩
  · obtain ⟨T51, X51, e51, st51⟩ := getS2 X47 hx hZ hown (host := "") (Or.inl (hw _ (List.mem_of_getElem? (i := 15) rfl))) Via.refl e47 SMINUS (g := (mkF m 8 #[.val (.ref a1)] [(.ref a1)])) rfl (hb hby d2_8)
    have k52 : ∀ t, Steps p.tables e below (T51.setTop (mkF m 11 #[.val (.ref a1)] [(.ref aMINUS), (.ref a1)])) t → Steps p.tables e below (s₁.setTop (entryFrame m #[(.ref a1)] 1)) t := fun t kt => k48 t (by
        show Steps p.tables e below (T47.setTop (mkF m 4 #[.val (.ref a1)] [(.ref aPLUS), (.ref a1)])) _
        refine Jvm.RoadKit.acmp (g := (mkF m 4 #[.val (.ref a1)] [(.ref aPLUS), (.ref a1)])) X47 hx rfl rfl rfl (pc0 := 4) (pc' := 7) (same := false) rfl (hb hby d2_4) rfl (decide_eq_false fun q => hc4_49 (Value.ref.inj q)) (by decide) (by decide) ?_
        show Steps p.tables e below (T47.setTop (mkF m 7 #[.val (.ref a1)] [])) _
        refine XS.aloadN X47.here hx rfl (hb hby d2_7) rfl rfl ?_
        show Steps p.tables e below (T47.setTop (mkF m 8 #[.val (.ref a1)] [(.ref a1)])) _
        refine st51 _ ?_
        exact kt)
    by_cases hc11_53 : a1 = aMINUS
    · have k54 : ∀ t, Steps p.tables e below (T51.setTop (mkF m 26 #[.val (.ref a1)] [(.int (1 : Int32))])) t → Steps p.tables e below (s₁.setTop (entryFrame m #[(.ref a1)] 1)) t := fun t kt => k52 t (by
          show Steps p.tables e below (T51.setTop (mkF m 11 #[.val (.ref a1)] [(.ref aMINUS), (.ref a1)])) _
          refine Jvm.RoadKit.acmp (g := (mkF m 11 #[.val (.ref a1)] [(.ref aMINUS), (.ref a1)])) X51 hx rfl rfl rfl (pc0 := 11) (pc' := 21) (same := true) rfl (hb hby d2_11) rfl (decide_eq_true (congrArg Value.ref hc11_53)) (by decide) (by decide) ?_
          show Steps p.tables e below (T51.setTop (mkF m 21 #[.val (.ref a1)] [])) _
          refine XS.iconst X51.here hx rfl (hb hby d2_21) ?_
          show Steps p.tables e below (T51.setTop (mkF m 22 #[.val (.ref a1)] [(.int (1 : Int32))])) _
          refine XS.goto X51.here hx rfl (pc0 := 22) (pc' := 26) rfl (hb hby d2_22) (by decide) (by decide) ?_
          exact kt)
      obtain ⟨fs, hr, hrun, hended, hW, hsame⟩ := X51.leave (v := some (.int (1 : Int32))) (fun h => by rw [Bd.returns] at h; cases h)
      refine ⟨_, _, k54 _ ?_, hrun, hended, _, _, rfl, ?_, ⟨_, rfl⟩, hW, hsame.mono (by decide) (by decide)⟩
      · show Steps p.tables e below (T51.setTop (mkF m 26 #[.val (.ref a1)] [(.int (1 : Int32))])) _
        exact retN X51 hx (t := .boolean) Bd.returns (by simp) (hb hby d2_26) hr
      · show Q_rm2 Z a1 aPLUS aMINUS aTIMES h0 n0 _ T51.heap _
        rw [e51]
        exact ⟨by simp [own_isArith, hc4_49, hc11_53], N0, rfl⟩
    · obtain ⟨T55, X55, e55, st55⟩ := getS2 X51 hx hZ hown (host := "") (Or.inl (hw _ (List.mem_of_getElem? (i := 17) rfl))) Via.refl e51 STIMES (g := (mkF m 15 #[.val (.ref a1)] [(.ref a1)])) rfl (hb hby d2_15)
      have k56 : ∀ t, Steps p.tables e below (T55.setTop (mkF m 18 #[.val (.ref a1)] [(.ref aTIMES), (.ref a1)])) t → Steps p.tables e below (s₁.setTop (entryFrame m #[(.ref a1)] 1)) t := fun t kt => k52 t (by
          show Steps p.tables e below (T51.setTop (mkF m 11 #[.val (.ref a1)] [(.ref aMINUS), (.ref a1)])) _
          refine Jvm.RoadKit.acmp (g := (mkF m 11 #[.val (.ref a1)] [(.ref aMINUS), (.ref a1)])) X51 hx rfl rfl rfl (pc0 := 11) (pc' := 14) (same := false) rfl (hb hby d2_11) rfl (decide_eq_false fun q => hc11_53 (Value.ref.inj q)) (by decide) (by decide) ?_
          show Steps p.tables e below (T51.setTop (mkF m 14 #[.val (.ref a1)] [])) _
          refine XS.aloadN X51.here hx rfl (hb hby d2_14) rfl rfl ?_
          show Steps p.tables e below (T51.setTop (mkF m 15 #[.val (.ref a1)] [(.ref a1)])) _
          refine st55 _ ?_
          exact kt)
      by_cases hc18_57 : a1 = aTIMES
      · have k58 : ∀ t, Steps p.tables e below (T55.setTop (mkF m 26 #[.val (.ref a1)] [(.int (1 : Int32))])) t → Steps p.tables e below (s₁.setTop (entryFrame m #[(.ref a1)] 1)) t := fun t kt => k56 t (by
            show Steps p.tables e below (T55.setTop (mkF m 18 #[.val (.ref a1)] [(.ref aTIMES), (.ref a1)])) _
            refine Jvm.RoadKit.acmp (g := (mkF m 18 #[.val (.ref a1)] [(.ref aTIMES), (.ref a1)])) X55 hx rfl rfl rfl (pc0 := 18) (pc' := 21) (same := true) rfl (hb hby d2_18) rfl (decide_eq_true (congrArg Value.ref hc18_57)) (by decide) (by decide) ?_
            show Steps p.tables e below (T55.setTop (mkF m 21 #[.val (.ref a1)] [])) _
            refine XS.iconst X55.here hx rfl (hb hby d2_21) ?_
            show Steps p.tables e below (T55.setTop (mkF m 22 #[.val (.ref a1)] [(.int (1 : Int32))])) _
            refine XS.goto X55.here hx rfl (pc0 := 22) (pc' := 26) rfl (hb hby d2_22) (by decide) (by decide) ?_
            exact kt)
        obtain ⟨fs, hr, hrun, hended, hW, hsame⟩ := X55.leave (v := some (.int (1 : Int32))) (fun h => by rw [Bd.returns] at h; cases h)
        refine ⟨_, _, k58 _ ?_, hrun, hended, _, _, rfl, ?_, ⟨_, rfl⟩, hW, hsame.mono (by decide) (by decide)⟩
        · show Steps p.tables e below (T55.setTop (mkF m 26 #[.val (.ref a1)] [(.int (1 : Int32))])) _
          exact retN X55 hx (t := .boolean) Bd.returns (by simp) (hb hby d2_26) hr
        · show Q_rm2 Z a1 aPLUS aMINUS aTIMES h0 n0 _ T55.heap _
          rw [e55]
          exact ⟨by simp [own_isArith, hc4_49, hc11_53, hc18_57], N0, rfl⟩
      · have k59 : ∀ t, Steps p.tables e below (T55.setTop (mkF m 26 #[.val (.ref a1)] [(.int (0 : Int32))])) t → Steps p.tables e below (s₁.setTop (entryFrame m #[(.ref a1)] 1)) t := fun t kt => k56 t (by
            show Steps p.tables e below (T55.setTop (mkF m 18 #[.val (.ref a1)] [(.ref aTIMES), (.ref a1)])) _
            refine Jvm.RoadKit.acmp (g := (mkF m 18 #[.val (.ref a1)] [(.ref aTIMES), (.ref a1)])) X55 hx rfl rfl rfl (pc0 := 18) (pc' := 25) (same := false) rfl (hb hby d2_18) rfl (decide_eq_false fun q => hc18_57 (Value.ref.inj q)) (by decide) (by decide) ?_
            show Steps p.tables e below (T55.setTop (mkF m 25 #[.val (.ref a1)] [])) _
            refine XS.iconst X55.here hx rfl (hb hby d2_25) ?_
            exact kt)
        obtain ⟨fs, hr, hrun, hended, hW, hsame⟩ := X55.leave (v := some (.int (0 : Int32))) (fun h => by rw [Bd.returns] at h; cases h)
        refine ⟨_, _, k59 _ ?_, hrun, hended, _, _, rfl, ?_, ⟨_, rfl⟩, hW, hsame.mono (by decide) (by decide)⟩
        · show Steps p.tables e below (T55.setTop (mkF m 26 #[.val (.ref a1)] [(.int (0 : Int32))])) _
          exact retN X55 hx (t := .boolean) Bd.returns (by simp) (hb hby d2_26) hr
        · show Q_rm2 Z a1 aPLUS aMINUS aTIMES h0 n0 _ T55.heap _
          rw [e55]
          exact ⟨by simp [own_isArith, hc4_49, hc11_53, hc18_57], N0, rfl⟩
theorem pd_0 : parseMethodDescriptor "(I)Lcom/example/dasv/dasv/model/Expression$Operator;" = some ⟨[.int], some (.object "com/example/dasv/dasv/model/Expression$Operator")⟩ := by decide +kernel
theorem pd_1 : parseMethodDescriptor "()Z" = some ⟨[], some .boolean⟩ := by decide +kernel
theorem ef_rm0 (m : MethodId) (x0 : Int32) : entryFrame m #[(.int x0)] maxLocals = mkF m 0 #[.val (.int x0), .unset, .unset, .unset] [] := by first | (simp [entryFrame, mkF, argsToLocals, Value.category, maxLocals]; done) | rfl
def Q_rm0 (Z : State) (p1 : Int32) (h0 : Heap) (n0 : Nat) (v : Option Value) (h : Heap) (L : List Loc) : Prop := v = some (.int 1) ∧ Fr n0 L
set_option maxRecDepth 65536 in
set_option maxHeartbeats 40000000 in
theorem rm0 (l : Launch) (Z : State) (a0 : Array Value) (hw : ∀ d ∈ tables_1, d.before a0 Z = true) (ws : List Jvm.Cond) (p1 : Int32) (aAND aOR aIMPLIES aEQUALS aDIFFERS aLESS aAT_MOST aGREATER aAT_LEAST aPLUS aMINUS aTIMES : Addr) (h0 : Heap) (n0 : Nat) (Z0 : n0 ≤ h0.size) (SAND : Sta Z h0 "com/example/dasv/dasv/model/Expression$Operator" "AND" "Lcom/example/dasv/dasv/model/Expression$Operator;" (.ref aAND)) (SOR : Sta Z h0 "com/example/dasv/dasv/model/Expression$Operator" "OR" "Lcom/example/dasv/dasv/model/Expression$Operator;" (.ref aOR)) (SIMPLIES : Sta Z h0 "com/example/dasv/dasv/model/Expression$Operator" "IMPLIES" "Lcom/example/dasv/dasv/model/Expression$Operator;" (.ref aIMPLIES)) (SEQUALS : Sta Z h0 "com/example/dasv/dasv/model/Expression$Operator" "EQUALS" "Lcom/example/dasv/dasv/model/Expression$Operator;" (.ref aEQUALS)) (SDIFFERS : Sta Z h0 "com/example/dasv/dasv/model/Expression$Operator" "DIFFERS" "Lcom/example/dasv/dasv/model/Expression$Operator;" (.ref aDIFFERS)) (SLESS : Sta Z h0 "com/example/dasv/dasv/model/Expression$Operator" "LESS" "Lcom/example/dasv/dasv/model/Expression$Operator;" (.ref aLESS)) (SAT_MOST : Sta Z h0 "com/example/dasv/dasv/model/Expression$Operator" "AT_MOST" "Lcom/example/dasv/dasv/model/Expression$Operator;" (.ref aAT_MOST)) (SGREATER : Sta Z h0 "com/example/dasv/dasv/model/Expression$Operator" "GREATER" "Lcom/example/dasv/dasv/model/Expression$Operator;" (.ref aGREATER)) (SAT_LEAST : Sta Z h0 "com/example/dasv/dasv/model/Expression$Operator" "AT_LEAST" "Lcom/example/dasv/dasv/model/Expression$Operator;" (.ref aAT_LEAST)) (SPLUS : Sta Z h0 "com/example/dasv/dasv/model/Expression$Operator" "PLUS" "Lcom/example/dasv/dasv/model/Expression$Operator;" (.ref aPLUS)) (SMINUS : Sta Z h0 "com/example/dasv/dasv/model/Expression$Operator" "MINUS" "Lcom/example/dasv/dasv/model/Expression$Operator;" (.ref aMINUS)) (STIMES : Sta Z h0 "com/example/dasv/dasv/model/Expression$Operator" "TIMES" "Lcom/example/dasv/dasv/model/Expression$Operator;" (.ref aTIMES)) (EAND : Exa Z h0 aAND "com/example/dasv/dasv/model/Expression$Operator") (EOR : Exa Z h0 aOR "com/example/dasv/dasv/model/Expression$Operator") (EIMPLIES : Exa Z h0 aIMPLIES "com/example/dasv/dasv/model/Expression$Operator") (EEQUALS : Exa Z h0 aEQUALS "com/example/dasv/dasv/model/Expression$Operator") (EDIFFERS : Exa Z h0 aDIFFERS "com/example/dasv/dasv/model/Expression$Operator") (ELESS : Exa Z h0 aLESS "com/example/dasv/dasv/model/Expression$Operator") (EAT_MOST : Exa Z h0 aAT_MOST "com/example/dasv/dasv/model/Expression$Operator") (EGREATER : Exa Z h0 aGREATER "com/example/dasv/dasv/model/Expression$Operator") (EAT_LEAST : Exa Z h0 aAT_LEAST "com/example/dasv/dasv/model/Expression$Operator") (EPLUS : Exa Z h0 aPLUS "com/example/dasv/dasv/model/Expression$Operator") (EMINUS : Exa Z h0 aMINUS "com/example/dasv/dasv/model/Expression$Operator") (ETIMES : Exa Z h0 aTIMES "com/example/dasv/dasv/model/Expression$Operator") (n_AND__PLUS : aAND ≠ aPLUS) (n_AND__MINUS : aAND ≠ aMINUS) (n_AND__TIMES : aAND ≠ aTIMES) (n_OR__PLUS : aOR ≠ aPLUS) (n_OR__MINUS : aOR ≠ aMINUS) (n_OR__TIMES : aOR ≠ aTIMES) (n_IMPLIES__PLUS : aIMPLIES ≠ aPLUS) (n_IMPLIES__MINUS : aIMPLIES ≠ aMINUS) (n_IMPLIES__TIMES : aIMPLIES ≠ aTIMES) (n_EQUALS__PLUS : aEQUALS ≠ aPLUS) (n_EQUALS__MINUS : aEQUALS ≠ aMINUS) (n_EQUALS__TIMES : aEQUALS ≠ aTIMES) (n_DIFFERS__PLUS : aDIFFERS ≠ aPLUS) (n_DIFFERS__MINUS : aDIFFERS ≠ aMINUS) (n_DIFFERS__TIMES : aDIFFERS ≠ aTIMES) (n_LESS__PLUS : aLESS ≠ aPLUS) (n_LESS__MINUS : aLESS ≠ aMINUS) (n_LESS__TIMES : aLESS ≠ aTIMES) (n_AT_MOST__PLUS : aAT_MOST ≠ aPLUS) (n_AT_MOST__MINUS : aAT_MOST ≠ aMINUS) (n_AT_MOST__TIMES : aAT_MOST ≠ aTIMES) (n_GREATER__PLUS : aGREATER ≠ aPLUS) (n_GREATER__MINUS : aGREATER ≠ aMINUS) (n_GREATER__TIMES : aGREATER ≠ aTIMES) (n_AT_LEAST__PLUS : aAT_LEAST ≠ aPLUS) (n_AT_LEAST__MINUS : aAT_LEAST ≠ aMINUS) (n_AT_LEAST__TIMES : aAT_LEAST ≠ aTIMES) (n_PLUS__MINUS : aPLUS ≠ aMINUS) (n_PLUS__TIMES : aPLUS ≠ aTIMES) (n_MINUS__TIMES : aMINUS ≠ aTIMES) :
    MetFree l x (head1 (Jvm.Cond.code x code maxLocals ret :: ws) room_1) (fun a U => a = #[(.int p1)] ∧ Z.Warmed39 U.vm ∧ U.heap = h0) (fun _ _ _ _ _ => True) (fun _ U o U' => ∃ v L, o = .returned v ∧ Q_rm0 Z p1 h0 n0 v U'.heap L ∧ FrameEnd U o U' L room_1.cells room_1.slots) := by
  refine MetFree.of_bodySF (plainFor_of_name pn_c0) hisR ?_
  intro p e s m args below meth c s₁ Bd hml0 hP hK
  obtain ⟨rfl, hZ, hh⟩ := hP
  have hx := Bd.exec
  have hby := Bd.bytes
  have hml : c.maxLocals = 4 := hml0
  have hown : s.vm.findClass "com/example/dasv/dasv/model/OperatorIsArithmeticPinLaw" = some m.cls := findClass_of_methodNamed Bd.named
  have hnm := (name_of_methodNamed Bd.named Bd.method).1
  have X0 : Stand p l e room_1 s m #[(.int p1)] below meth c s₁ [] 0 0 := Stand.of_body Bd
  have e0 : s₁.heap = h0 := by rw [← hh, Bd.state]; rfl
  have N0 := Fr.nil n0
  have pre0 : ∀ t, Steps p.tables e below (s₁.setTop (mkF m 0 #[.val (.int p1), .unset, .unset, .unset] [])) t → Steps p.tables e below (s₁.setTop (entryFrame m #[(.int p1)] maxLocals)) t := fun t k => castTop (ef_rm0 m p1) k
  obtain ⟨k, hk, hk12⟩ := own_rem p1
  have k60 : ∀ t, Steps p.tables e below (s₁.setTop (mkF m 7 #[.val (.int p1), .unset, .unset, .unset] [(.int ((p1 &&& (2147483647 : Int32)) % (12 : Int32)))])) t → Steps p.tables e below (s₁.setTop (entryFrame m #[(.int p1)] maxLocals)) t := fun t kt => pre0 t (by
      let A0 : Array Slot := #[.val (.int p1), .unset, .unset, .unset]
      show Steps p.tables e below (s₁.setTop (mkF m 0 A0 [])) _
      refine XS.iloadN X0.here hx rfl (hb hby at_0) rfl ?_
      show Steps p.tables e below (s₁.setTop (mkF m 1 A0 [(.int p1)])) _
      refine X0.ldcInt hx hown (mvT hZ (hw _ (List.mem_of_getElem? (i := 0) rfl))) (g := (mkF m 1 A0 [(.int p1)])) rfl (hb hby at_1) _ ?_
      show Steps p.tables e below (s₁.setTop (mkF m 3 A0 [(.int (2147483647 : Int32)), (.int p1)])) _
      refine XS.iand X0.here hx rfl (hb hby at_3) rfl ?_
      show Steps p.tables e below (s₁.setTop (mkF m 4 A0 [(.int (p1 &&& (2147483647 : Int32)))])) _
      refine XS.bipush X0.here hx rfl (hb hby at_4) ?_
      show Steps p.tables e below (s₁.setTop (mkF m 6 A0 [(.int (12 : Int32)), (.int (p1 &&& (2147483647 : Int32)))])) _
      refine iremM (g := (mkF m 6 A0 [(.int (12 : Int32)), (.int (p1 &&& (2147483647 : Int32)))])) X0 hx rfl (hb hby at_6) rfl (by decide) ?_
      exact kt)
  rw [← hk] at k60
  obtain ⟨ap, hap⟩ : ∃ a, a = own_pick k aAND aOR aIMPLIES aEQUALS aDIFFERS aLESS aAT_MOST aGREATER aAT_LEAST aPLUS aMINUS aTIMES := ⟨_, rfl⟩
  have Eap : Exa Z h0 ap "com/example/dasv/dasv/model/Expression$Operator" := by
    rw [hap]; rcases hk12 with rfl | rfl | rfl | rfl | rfl | rfl | rfl | rfl | rfl | rfl | rfl | rfl
    · exact EAND
    · exact EOR
    · exact EIMPLIES
    · exact EEQUALS
    · exact EDIFFERS
    · exact ELESS
    · exact EAT_MOST
    · exact EGREATER
    · exact EAT_LEAST
    · exact EPLUS
    · exact EMINUS
    · exact ETIMES
  obtain ⟨_, _, ⟨T61, L61, k61, n61⟩, -, X61, ⟨Lc61, hQ61, l61, y61, z61⟩, st61⟩ := Jvm.LawKit.callS X0 hx (y := (⟨"com/example/dasv/dasv/model/OperatorIsArithmeticPinLaw", "pick", "(I)Lcom/example/dasv/dasv/model/Expression$Operator;"⟩ : MethodName)) hown (mvT hZ (hw _ (List.mem_of_getElem? (i := 1) rfl))) (mvT hZ (hw _ (List.mem_of_getElem? (i := 2) rfl))) (mvT hZ (hw _ (List.mem_of_getElem? (i := 3) rfl))) (mvT hZ (hw _ (List.mem_of_getElem? (i := 4) rfl))) (by decide) (backOf (W := 0) (rm1 l Z a0 hw [] k aAND aOR aIMPLIES aEQUALS aDIFFERS aLESS aAT_MOST aGREATER aAT_LEAST aPLUS aMINUS aTIMES h0 n0 Z0 SAND SOR SIMPLIES SEQUALS SDIFFERS SLESS SAT_MOST SGREATER SAT_LEAST SPLUS SMINUS STIMES) hZ (hw _ (List.mem_of_getElem? (i := 4) rfl)) (hw _ (List.mem_of_getElem? (i := 3) rfl)) (by decide) (by decide)) (g := (mkF m 9 #[.val (.int p1), .val (.int k), .unset, .unset] [(.int k)])) rfl (by rw [hml]; rfl) (argsL := [(.int k)]) (rest := []) (lenOf pd_0 rfl) rfl (by show 2 * 0 + _ ≤ _; exact Nat.le_of_eq rfl) (hb hby at_9) (fun _ _ => ⟨rfl, e0, (by decide : 0 + 0 ≤ _), (by decide : 0 + 0 ≤ _)⟩)
  dsimp only [Pt.U, Pt.locs, Pt.cells, Pt.slots] at X61 l61 y61 z61 st61 hQ61
  subst l61 y61 z61
  obtain ⟨rfl, N61q, e61⟩ := hQ61
  have N61 := Fr.app N0 N61q
  have k62 : ∀ t, Steps p.tables e below (T61.setTop (mkF m 12 #[.val (.int p1), .val (.int k), .unset, .unset] [(.ref (own_pick k aAND aOR aIMPLIES aEQUALS aDIFFERS aLESS aAT_MOST aGREATER aAT_LEAST aPLUS aMINUS aTIMES))])) t → Steps p.tables e below (s₁.setTop (entryFrame m #[(.int p1)] maxLocals)) t := fun t kt => k60 t (by
      show Steps p.tables e below (s₁.setTop (mkF m 7 #[.val (.int p1), .unset, .unset, .unset] [(.int k)])) _
      let A0 : Array Slot := #[.val (.int p1), .val (.int k), .unset, .unset]
      refine XS.istoreN X0.here hx rfl (hb hby at_7) rfl (l' := A0) rfl ?_
      show Steps p.tables e below (s₁.setTop (mkF m 8 A0 [])) _
      refine XS.iloadN X0.here hx rfl (hb hby at_8) rfl ?_
      show Steps p.tables e below (s₁.setTop (mkF m 9 A0 [(.int k)])) _
      refine st61 _ ?_
      exact kt)
  rw [← hap] at k62
  have k63 : ∀ t, Steps p.tables e below (T61.setTop (mkF m 16 #[.val (.int p1), .val (.int k), .val (.ref ap), .unset] [(.int (9 : Int32)), (.int k)])) t → Steps p.tables e below (s₁.setTop (entryFrame m #[(.int p1)] maxLocals)) t := fun t kt => k62 t (by
      show Steps p.tables e below (T61.setTop (mkF m 12 #[.val (.int p1), .val (.int k), .unset, .unset] [(.ref ap)])) _
      let A0 : Array Slot := #[.val (.int p1), .val (.int k), .val (.ref ap), .unset]
      refine XS.astoreN X61.here hx rfl (hb hby at_12) rfl rfl (l' := A0) rfl ?_
      show Steps p.tables e below (T61.setTop (mkF m 13 A0 [])) _
      refine XS.iloadN X61.here hx rfl (hb hby at_13) rfl ?_
      show Steps p.tables e below (T61.setTop (mkF m 14 A0 [(.int k)])) _
      refine XS.bipush X61.here hx rfl (hb hby at_14) ?_
      exact kt)
  obtain ⟨v67, hv67⟩ : ∃ v : Int32, v = (if k = (9 : Int32) then (1 : Int32) else (if k = (10 : Int32) then (1 : Int32) else (if k = (11 : Int32) then (1 : Int32) else (0 : Int32)))) := ⟨_, rfl⟩
  have k68 : ∀ t, Steps p.tables e below (T61.setTop (mkF m 36 #[.val (.int p1), .val (.int k), .val (.ref ap), .unset] [(.int v67)])) t → Steps p.tables e below (s₁.setTop (entryFrame m #[(.int p1)] maxLocals)) t := by
    intro t kt
    by_cases hc16_64 : k = (9 : Int32)
    · rw [show v67 = (1 : Int32) from (hv67.trans (if_pos hc16_64))] at kt
      exact k63 t (by
          let A0 : Array Slot := #[.val (.int p1), .val (.int k), .val (.ref ap), .unset]
          show Steps p.tables e below (T61.setTop (mkF m 16 A0 [(.int (9 : Int32)), (.int k)])) _
          refine XS.icmpYes X61.here hx rfl (pc0 := 16) (pc' := 31) rfl (hb hby at_16) rfl (teq hc16_64).1 (by decide) (by decide) ?_
          show Steps p.tables e below (T61.setTop (mkF m 31 A0 [])) _
          refine XS.iconst X61.here hx rfl (hb hby at_31) ?_
          show Steps p.tables e below (T61.setTop (mkF m 32 A0 [(.int (1 : Int32))])) _
          refine XS.goto X61.here hx rfl (pc0 := 32) (pc' := 36) rfl (hb hby at_32) (by decide) (by decide) ?_
          exact kt)
    · by_cases hc22_65 : k = (10 : Int32)
      · rw [show v67 = (1 : Int32) from ((hv67.trans (if_neg hc16_64)).trans (if_pos hc22_65))] at kt
        exact k63 t (by
            let A0 : Array Slot := #[.val (.int p1), .val (.int k), .val (.ref ap), .unset]
            show Steps p.tables e below (T61.setTop (mkF m 16 A0 [(.int (9 : Int32)), (.int k)])) _
            refine XS.icmpNo X61.here hx rfl (hb hby at_16) rfl (feq hc16_64).1 ?_
            show Steps p.tables e below (T61.setTop (mkF m 19 A0 [])) _
            refine XS.iloadN X61.here hx rfl (hb hby at_19) rfl ?_
            show Steps p.tables e below (T61.setTop (mkF m 20 A0 [(.int k)])) _
            refine XS.bipush X61.here hx rfl (hb hby at_20) ?_
            show Steps p.tables e below (T61.setTop (mkF m 22 A0 [(.int (10 : Int32)), (.int k)])) _
            refine XS.icmpYes X61.here hx rfl (pc0 := 22) (pc' := 31) rfl (hb hby at_22) rfl (teq hc22_65).1 (by decide) (by decide) ?_
            show Steps p.tables e below (T61.setTop (mkF m 31 A0 [])) _
            refine XS.iconst X61.here hx rfl (hb hby at_31) ?_
            show Steps p.tables e below (T61.setTop (mkF m 32 A0 [(.int (1 : Int32))])) _
            refine XS.goto X61.here hx rfl (pc0 := 32) (pc' := 36) rfl (hb hby at_32) (by decide) (by decide) ?_
            exact kt)
      · by_cases hc28_66 : k = (11 : Int32)
        · rw [show v67 = (1 : Int32) from (((hv67.trans (if_neg hc16_64)).trans (if_neg hc22_65)).trans (if_pos hc28_66))] at kt
          exact k63 t (by
              let A0 : Array Slot := #[.val (.int p1), .val (.int k), .val (.ref ap), .unset]
              show Steps p.tables e below (T61.setTop (mkF m 16 A0 [(.int (9 : Int32)), (.int k)])) _
              refine XS.icmpNo X61.here hx rfl (hb hby at_16) rfl (feq hc16_64).1 ?_
              show Steps p.tables e below (T61.setTop (mkF m 19 A0 [])) _
              refine XS.iloadN X61.here hx rfl (hb hby at_19) rfl ?_
              show Steps p.tables e below (T61.setTop (mkF m 20 A0 [(.int k)])) _
              refine XS.bipush X61.here hx rfl (hb hby at_20) ?_
              show Steps p.tables e below (T61.setTop (mkF m 22 A0 [(.int (10 : Int32)), (.int k)])) _
              refine XS.icmpNo X61.here hx rfl (hb hby at_22) rfl (feq hc22_65).1 ?_
              show Steps p.tables e below (T61.setTop (mkF m 25 A0 [])) _
              refine XS.iloadN X61.here hx rfl (hb hby at_25) rfl ?_
              show Steps p.tables e below (T61.setTop (mkF m 26 A0 [(.int k)])) _
              refine XS.bipush X61.here hx rfl (hb hby at_26) ?_
              show Steps p.tables e below (T61.setTop (mkF m 28 A0 [(.int (11 : Int32)), (.int k)])) _
              refine XS.icmpNo X61.here hx rfl (hb hby at_28) rfl (teq hc28_66).2 ?_
              show Steps p.tables e below (T61.setTop (mkF m 31 A0 [])) _
              refine XS.iconst X61.here hx rfl (hb hby at_31) ?_
              show Steps p.tables e below (T61.setTop (mkF m 32 A0 [(.int (1 : Int32))])) _
              refine XS.goto X61.here hx rfl (pc0 := 32) (pc' := 36) rfl (hb hby at_32) (by decide) (by decide) ?_
              exact kt)
        · rw [show v67 = (0 : Int32) from (((hv67.trans (if_neg hc16_64)).trans (if_neg hc22_65)).trans (if_neg hc28_66))] at kt
          exact k63 t (by
              let A0 : Array Slot := #[.val (.int p1), .val (.int k), .val (.ref ap), .unset]
              show Steps p.tables e below (T61.setTop (mkF m 16 A0 [(.int (9 : Int32)), (.int k)])) _
              refine XS.icmpNo X61.here hx rfl (hb hby at_16) rfl (feq hc16_64).1 ?_
              show Steps p.tables e below (T61.setTop (mkF m 19 A0 [])) _
              refine XS.iloadN X61.here hx rfl (hb hby at_19) rfl ?_
              show Steps p.tables e below (T61.setTop (mkF m 20 A0 [(.int k)])) _
              refine XS.bipush X61.here hx rfl (hb hby at_20) ?_
              show Steps p.tables e below (T61.setTop (mkF m 22 A0 [(.int (10 : Int32)), (.int k)])) _
              refine XS.icmpNo X61.here hx rfl (hb hby at_22) rfl (feq hc22_65).1 ?_
              show Steps p.tables e below (T61.setTop (mkF m 25 A0 [])) _
              refine XS.iloadN X61.here hx rfl (hb hby at_25) rfl ?_
              show Steps p.tables e below (T61.setTop (mkF m 26 A0 [(.int k)])) _
              refine XS.bipush X61.here hx rfl (hb hby at_26) ?_
              show Steps p.tables e below (T61.setTop (mkF m 28 A0 [(.int (11 : Int32)), (.int k)])) _
              refine XS.icmpYes X61.here hx rfl (pc0 := 28) (pc' := 35) rfl (hb hby at_28) rfl (feq hc28_66).2 (by decide) (by decide) ?_
              show Steps p.tables e below (T61.setTop (mkF m 35 A0 [])) _
              refine XS.iconst X61.here hx rfl (hb hby at_35) ?_
              exact kt)
  have hfin : own_isArith ap aPLUS aMINUS aTIMES = v67 := by
    rw [hv67, hap]
    rcases hk12 with rfl | rfl | rfl | rfl | rfl | rfl | rfl | rfl | rfl | rfl | rfl | rfl <;> simp [own_isArith, own_pick, n_AND__PLUS, n_AND__MINUS, n_AND__TIMES, n_OR__PLUS, n_OR__MINUS, n_OR__TIMES, n_IMPLIES__PLUS, n_IMPLIES__MINUS, n_IMPLIES__TIMES, n_EQUALS__PLUS, n_EQUALS__MINUS, n_EQUALS__TIMES, n_DIFFERS__PLUS, n_DIFFERS__MINUS, n_DIFFERS__TIMES, n_LESS__PLUS, n_LESS__MINUS, n_LESS__TIMES, n_AT_MOST__PLUS, n_AT_MOST__MINUS, n_AT_MOST__TIMES, n_GREATER__PLUS, n_GREATER__MINUS, n_GREATER__TIMES, n_AT_LEAST__PLUS, n_AT_LEAST__MINUS, n_AT_LEAST__TIMES, n_PLUS__MINUS, n_PLUS__TIMES, n_MINUS__TIMES]
  obtain ⟨cq69, kq69, q69a, q69b, q69c⟩ := isOf hZ e61 Eap
  obtain ⟨_, _, ⟨T69, L69, k69, n69⟩, -, X69, ⟨Lc69, hQ69, l69, y69, z69⟩, st69⟩ := X61.virtualBack hx (y := (⟨"com/example/dasv/dasv/model/Expression$Operator", "isArithmetic", "()Z"⟩ : MethodName)) (z := (⟨"com/example/dasv/dasv/model/Expression$Operator", "isArithmetic", "()Z"⟩ : MethodName)) hown (mvT hZ (hw _ (List.mem_of_getElem? (i := 8) rfl))) (mvT hZ (hw _ (List.mem_of_getElem? (i := 9) rfl))) (notFace_of_selects (args := #[]) (mvT hZ (hw _ (List.mem_of_getElem? (i := 11) rfl)))) (mvT hZ (hw _ (List.mem_of_getElem? (i := 11) rfl))) (mvT hZ (hw _ (List.mem_of_getElem? (i := 10) rfl))) (by decide) (backOf (W := 0) (rm2 l Z a0 hw [] ap aPLUS aMINUS aTIMES h0 n0 Z0 SPLUS SMINUS STIMES) hZ (hw _ (List.mem_of_getElem? (i := 12) rfl)) (hw _ (List.mem_of_getElem? (i := 6) rfl)) (by decide) (by decide)) q69a q69c (g := (mkF m 38 #[.val (.int p1), .val (.int k), .val (.ref ap), .val (.int v67)] [(.ref ap)])) rfl (by rw [hml]; rfl) (Steps.refl _) (argsL := []) (rest := []) (lenOf pd_1 rfl) rfl (by show 2 * 0 + _ ≤ _; exact Nat.le_of_eq rfl) (hb hby at_38) (fun _ _ => ⟨rfl, e61, (by decide : 0 + 0 ≤ _), (by decide : 0 + 0 ≤ _)⟩)
  dsimp only [Pt.U, Pt.locs, Pt.cells, Pt.slots] at X69 l69 y69 z69 st69 hQ69
  subst l69 y69 z69
  obtain ⟨rfl, N69q, e69⟩ := hQ69
  have N69 := Fr.app N61 N69q
  have k70 : ∀ t, Steps p.tables e below (T69.setTop (mkF m 50 #[.val (.int p1), .val (.int k), .val (.ref ap), .val (.int v67)] [(.int (1 : Int32))])) t → Steps p.tables e below (s₁.setTop (entryFrame m #[(.int p1)] maxLocals)) t := fun t kt => k68 t (by
      show Steps p.tables e below (T61.setTop (mkF m 36 #[.val (.int p1), .val (.int k), .val (.ref ap), .unset] [(.int v67)])) _
      let A0 : Array Slot := #[.val (.int p1), .val (.int k), .val (.ref ap), .val (.int v67)]
      refine XS.istoreN X61.here hx rfl (hb hby at_36) rfl (l' := A0) rfl ?_
      show Steps p.tables e below (T61.setTop (mkF m 37 A0 [])) _
      refine XS.aloadN X61.here hx rfl (hb hby at_37) rfl rfl ?_
      show Steps p.tables e below (T61.setTop (mkF m 38 A0 [(.ref ap)])) _
      refine st69.trans ?_
      show Steps p.tables e below (T69.setTop (mkF m 41 A0 [(.int (own_isArith ap aPLUS aMINUS aTIMES))])) _
      refine XS.iloadN X69.here hx rfl (hb hby at_41) rfl ?_
      show Steps p.tables e below (T69.setTop (mkF m 42 A0 [(.int v67), (.int (own_isArith ap aPLUS aMINUS aTIMES))])) _
      refine XS.icmpNo X69.here hx rfl (hb hby at_42) rfl (teq hfin).2 ?_
      show Steps p.tables e below (T69.setTop (mkF m 45 A0 [])) _
      refine XS.iconst X69.here hx rfl (hb hby at_45) ?_
      show Steps p.tables e below (T69.setTop (mkF m 46 A0 [(.int (1 : Int32))])) _
      refine XS.goto X69.here hx rfl (pc0 := 46) (pc' := 50) rfl (hb hby at_46) (by decide) (by decide) ?_
      exact kt)
  obtain ⟨fs, hr, hrun, hended, hW, hsame⟩ := X69.leave (v := some (.int (1 : Int32))) (fun h => by rw [Bd.returns] at h; cases h)
  refine ⟨_, _, k70 _ ?_, hrun, hended, _, _, rfl, ?_, ⟨_, rfl⟩, hW, hsame.mono (by decide) (by decide)⟩
  · show Steps p.tables e below (T69.setTop (mkF m 50 #[.val (.int p1), .val (.int k), .val (.ref ap), .val (.int v67)] [(.int (1 : Int32))])) _
    exact retN X69 hx (t := .boolean) Bd.returns (by simp) (hb hby at_50) hr
  · show Q_rm0 Z p1 h0 n0 _ T69.heap _
    rw [e69]
    exact ⟨rfl, N69⟩
set_option maxRecDepth 65536 in
set_option maxHeartbeats 40000000 in
theorem comes_1 {Post : Tables → Env → Array Value → State → Outcome → State → Prop} (hpost : ∀ tb e args s v u, (limb_1_1.after args s (.returned v) u = true ∧ limb_1_2.after args s (.returned v) u = true ∧ True) → FrameEnd s (.returned v) u (Jvm.fieldLocs frame_1_writes args s ++ Jvm.arrayLocs frame_1_arrays args s ++ Jvm.staticLocs frame_1_statics s) 0 0 → Post tb e args s (.returned v) u) :
    ArmFor flags0 classFile x code maxLocals ret World_1 tables_1 room_1 Calls_1 rest_1 Pre_1 Post := by
  intro l hfl _ _ p e ha hc hk s m args below hf hA hF happ hP
  obtain ⟨hcalls, hrest, hpre⟩ := hP
  obtain ⟨-, -, -, hnamed, -, -, -, hat⟩ := (Spec.applies_iff hf).mp happ
  obtain ⟨hg, hn⟩ := and_e (Cond.before_iff.mp (show (Jvm.Cond.and given_1 narrow_1).before args s = true from hpre))
  obtain ⟨hcnt, hg0⟩ := and_e hg
  obtain ⟨w0, rfl⟩ : ∃ w0 : Value, args = #[w0] := by
    have hs : args.size = 1 := by simpa [Cond.value, given_1] using hcnt
    obtain ⟨L⟩ := args
    match L, hs with
    | [w0], _ => exact ⟨w0, rfl⟩
  have hw := fun d (hd : d ∈ tables_1) => atoms_spec (ws := Jvm.Cond.code x code maxLocals ret :: tables_1) hat d (List.mem_cons_of_mem _ hd)
  have hfit : Fit s := fun {y c} hc i hi => by
    obtain ⟨ha, rfl⟩ := Array.getElem?_eq_some_iff.mp hc
    have q := List.all_eq_true.mp ((Array.all_eq_true_iff_forall_mem.mp hF) _ (Array.getElem_mem ha)) i (List.mem_range.mpr hi)
    simpa [Array.getElem?_eq_getElem hi] using q
  obtain ⟨i0, ei0⟩ := is_v hg0
  obtain rfl : w0 = (.int i0) := Option.some.inj ei0
  obtain ⟨hn_0, hnr_0⟩ := and_e hn
  obtain ⟨hn_1, hnr_1⟩ := and_e hnr_0
  obtain ⟨hn_2, hnr_2⟩ := and_e hnr_1
  obtain ⟨hn_3, hnr_3⟩ := and_e hnr_2
  obtain ⟨hn_4, hnr_4⟩ := and_e hnr_3
  obtain ⟨hn_5, hnr_5⟩ := and_e hnr_4
  obtain ⟨hn_6, hnr_6⟩ := and_e hnr_5
  obtain ⟨hn_7, hnr_7⟩ := and_e hnr_6
  obtain ⟨hn_8, hnr_8⟩ := and_e hnr_7
  obtain ⟨hn_9, hnr_9⟩ := and_e hnr_8
  obtain ⟨hn_10, hnr_10⟩ := and_e hnr_9
  obtain ⟨hn_11, hnr_11⟩ := and_e hnr_10
  obtain ⟨hn_12, hnr_12⟩ := and_e hnr_11
  obtain ⟨hn_13, hnr_13⟩ := and_e hnr_12
  obtain ⟨hn_14, hnr_14⟩ := and_e hnr_13
  obtain ⟨hn_15, hnr_15⟩ := and_e hnr_14
  obtain ⟨hn_16, hnr_16⟩ := and_e hnr_15
  obtain ⟨hn_17, hnr_17⟩ := and_e hnr_16
  obtain ⟨hn_18, hnr_18⟩ := and_e hnr_17
  obtain ⟨hn_19, hnr_19⟩ := and_e hnr_18
  obtain ⟨hn_20, hnr_20⟩ := and_e hnr_19
  obtain ⟨hn_21, hnr_21⟩ := and_e hnr_20
  obtain ⟨hn_22, hnr_22⟩ := and_e hnr_21
  obtain ⟨aAND, SAND, EAND, OAND⟩ := own_enum hn_0 hn_2 (hw _ (List.mem_of_getElem? (i := 6) rfl)) (hw _ (List.mem_of_getElem? (i := 7) rfl))
  obtain ⟨aOR, SOR, EOR, OOR⟩ := own_enum hn_18 hn_19 (hw _ (List.mem_of_getElem? (i := 6) rfl)) (hw _ (List.mem_of_getElem? (i := 31) rfl))
  obtain ⟨aIMPLIES, SIMPLIES, EIMPLIES, OIMPLIES⟩ := own_enum hn_10 hn_11 (hw _ (List.mem_of_getElem? (i := 6) rfl)) (hw _ (List.mem_of_getElem? (i := 22) rfl))
  obtain ⟨aEQUALS, SEQUALS, EEQUALS, OEQUALS⟩ := own_enum hn_8 hn_9 (hw _ (List.mem_of_getElem? (i := 6) rfl)) (hw _ (List.mem_of_getElem? (i := 20) rfl))
  obtain ⟨aDIFFERS, SDIFFERS, EDIFFERS, ODIFFERS⟩ := own_enum hn_14 hn_15 (hw _ (List.mem_of_getElem? (i := 6) rfl)) (hw _ (List.mem_of_getElem? (i := 27) rfl))
  obtain ⟨aLESS, SLESS, ELESS, OLESS⟩ := own_enum hn_22 hnr_22 (hw _ (List.mem_of_getElem? (i := 6) rfl)) (hw _ (List.mem_of_getElem? (i := 37) rfl))
  obtain ⟨aAT_MOST, SAT_MOST, EAT_MOST, OAT_MOST⟩ := own_enum hn_20 hn_21 (hw _ (List.mem_of_getElem? (i := 6) rfl)) (hw _ (List.mem_of_getElem? (i := 35) rfl))
  obtain ⟨aGREATER, SGREATER, EGREATER, OGREATER⟩ := own_enum hn_12 hn_13 (hw _ (List.mem_of_getElem? (i := 6) rfl)) (hw _ (List.mem_of_getElem? (i := 24) rfl))
  obtain ⟨aAT_LEAST, SAT_LEAST, EAT_LEAST, OAT_LEAST⟩ := own_enum hn_16 hn_17 (hw _ (List.mem_of_getElem? (i := 6) rfl)) (hw _ (List.mem_of_getElem? (i := 29) rfl))
  obtain ⟨aPLUS, SPLUS, EPLUS, OPLUS⟩ := own_enum hn_1 hn_3 (hw _ (List.mem_of_getElem? (i := 6) rfl)) (hw _ (List.mem_of_getElem? (i := 14) rfl))
  obtain ⟨aMINUS, SMINUS, EMINUS, OMINUS⟩ := own_enum hn_4 hn_5 (hw _ (List.mem_of_getElem? (i := 6) rfl)) (hw _ (List.mem_of_getElem? (i := 16) rfl))
  obtain ⟨aTIMES, STIMES, ETIMES, OTIMES⟩ := own_enum hn_6 hn_7 (hw _ (List.mem_of_getElem? (i := 6) rfl)) (hw _ (List.mem_of_getElem? (i := 18) rfl))
  obtain ⟨n, o, h1, h2, h3, _, L, rfl, ⟨rfl, N⟩, hq⟩ := rm0 l s _ hw tables_1 i0 aAND aOR aIMPLIES aEQUALS aDIFFERS aLESS aAT_MOST aGREATER aAT_LEAST aPLUS aMINUS aTIMES s.heap s.heap.size (Nat.le_refl _) SAND SOR SIMPLIES SEQUALS SDIFFERS SLESS SAT_MOST SGREATER SAT_LEAST SPLUS SMINUS STIMES EAND EOR EIMPLIES EEQUALS EDIFFERS ELESS EAT_MOST EGREATER EAT_LEAST EPLUS EMINUS ETIMES (own_ne OAND OPLUS (by decide)) (own_ne OAND OMINUS (by decide)) (own_ne OAND OTIMES (by decide)) (own_ne OOR OPLUS (by decide)) (own_ne OOR OMINUS (by decide)) (own_ne OOR OTIMES (by decide)) (own_ne OIMPLIES OPLUS (by decide)) (own_ne OIMPLIES OMINUS (by decide)) (own_ne OIMPLIES OTIMES (by decide)) (own_ne OEQUALS OPLUS (by decide)) (own_ne OEQUALS OMINUS (by decide)) (own_ne OEQUALS OTIMES (by decide)) (own_ne ODIFFERS OPLUS (by decide)) (own_ne ODIFFERS OMINUS (by decide)) (own_ne ODIFFERS OTIMES (by decide)) (own_ne OLESS OPLUS (by decide)) (own_ne OLESS OMINUS (by decide)) (own_ne OLESS OTIMES (by decide)) (own_ne OAT_MOST OPLUS (by decide)) (own_ne OAT_MOST OMINUS (by decide)) (own_ne OAT_MOST OTIMES (by decide)) (own_ne OGREATER OPLUS (by decide)) (own_ne OGREATER OMINUS (by decide)) (own_ne OGREATER OTIMES (by decide)) (own_ne OAT_LEAST OPLUS (by decide)) (own_ne OAT_LEAST OMINUS (by decide)) (own_ne OAT_LEAST OTIMES (by decide)) (own_ne OPLUS OMINUS (by decide)) (own_ne OPLUS OTIMES (by decide)) (own_ne OMINUS OTIMES (by decide)) p e ha hc hk s m _ below hf ((Spec.applies_iff_loose hf).mp happ).1 ⟨rfl, State.Warmed39.refl s, rfl⟩ trivial
  refine ⟨n, _, h1, h2, h3, hpost _ _ _ _ _ _ ⟨Cond.after_iff.mpr rfl, Cond.after_iff.mpr (eq_i res_at (Term.int_eval (1)) rfl), trivial⟩ ⟨hq.1, hq.2.1, (hq.2.2.sift fun y hy => Or.inr (N y hy)).mono (by decide) (by decide)⟩⟩
theorem main_1_1 : Claimed_1_1 := comes_1 fun _ _ _ _ _ _ h hF => ⟨h.1, hF⟩
theorem main_1_2 : Claimed_1_2 := comes_1 fun _ _ _ _ _ _ h hF => ⟨h.2.1, hF⟩
end Jvm.Pilot.@@N@@
namespace Jvm.Pilot.@@N@@
open Jvm Jvm.ClassFile Sem Op Lib Jvm.Free Jvm.Stand Jvm.Pilot.@@N@@.Jvm.D
/-! MADE BY PROGRAM (witnessworld.py) out of the Statement's table words and the real class files: 12 classes; the members and pool entries that the words name. The judged class is class 1, her method 2. -/
namespace start1
open Jvm.ClassFile
def u (s : String) : CpInfo := .utf8 (stringToUtf16 s)
/-- a pool by its gaps: so many unusable entries, then the entry; so many at the end -/
def gap : Nat → List CpInfo → List CpInfo
  | 0, r => r
  | n + 1, r => .unusable :: gap n r
def poolList (es : List (Nat × CpInfo)) (last : Nat) : List CpInfo := es.foldr (fun e r => gap e.1 (e.2 :: r)) (gap last [])
def pool (es : List (Nat × CpInfo)) (last : Nat) : Array CpInfo := ⟨poolList es last⟩
def fileOf (pool : Array CpInfo) (this : Nat) (attrs : Array Attribute := #[]) (ms : Array MethodInfo := #[]) (fl : Nat := 33) (sup : Nat := 0) (ifs : Array Nat := #[]) (fds : Array FieldInfo := #[]) : ClassFile where
  minorVersion := 0
  majorVersion := 65
  constantPool := pool
  accessFlags := fl
  thisClass := this
  superClass := sup
  interfaces := ifs
  fields := fds
  methods := ms
  attributes := attrs
def plain (name : String) (sup : Option ClassId) : Class where
  name := name
  kind := .ordinary
  loader := none
  accessFlags := 33
  super := sup
  interfaces := #[]
  cf := none
  fields := #[]
  methods := #[]
  instanceTypes := #[]
  staticTypes := #[]
  resolved := #[]
  callSites := []
  init := .initialized
  statics := none
  mirror := none

def pool0 : Array CpInfo := pool [(5, u "<init>"), (0, u "()V"), (1, .class_ 10), (1, u "java/lang/Object")] 113

def k0m0 : Method := { name := "<init>", desc := "()V", sig := { parameters := [], returnType := none }, accessFlags := 1, code := none }
/-- java/lang/Object -/
def k0 : Class := { plain "java/lang/Object" none with
  accessFlags := 33
  interfaces := #[]
  cf := some (fileOf pool0 8 #[] #[{ accessFlags := 1, nameIndex := 5, descriptorIndex := 6, attributes := #[] }] 33 0 #[] #[])
  fields := #[]
  methods := #[k0m0]
  instanceTypes := #[]
  staticTypes := #[]
  resolved := Array.replicate 124 none
  statics := none }

def pool1 : Array CpInfo := pool [(2, .class_ 4), (1, u "java/lang/Object"), (0, u "<init>"), (0, u "()V"), (0, .fieldref 8 9), (0, .class_ 10), (0, .nameAndType 11 12), (0, u "com/example/dasv/dasv/model/Expression$Operator"), (0, u "AND"), (0, u "Lcom/example/dasv/dasv/model/Expression$Operator;"), (0, .fieldref 8 14), (0, .nameAndType 15 12), (0, u "OR"), (0, .fieldref 8 17), (0, .nameAndType 18 12), (0, u "IMPLIES"), (0, .fieldref 8 20), (0, .nameAndType 21 12), (0, u "EQUALS"), (0, .fieldref 8 23), (0, .nameAndType 24 12), (0, u "DIFFERS"), (0, .fieldref 8 26), (0, .nameAndType 27 12), (0, u "LESS"), (0, .fieldref 8 29), (0, .nameAndType 30 12), (0, u "AT_MOST"), (0, .fieldref 8 32), (0, .nameAndType 33 12), (0, u "GREATER"), (0, .fieldref 8 35), (0, .nameAndType 36 12), (0, u "AT_LEAST"), (0, .fieldref 8 38), (0, .nameAndType 39 12), (0, u "PLUS"), (0, .fieldref 8 41), (0, .nameAndType 42 12), (0, u "MINUS"), (0, .fieldref 8 44), (0, .nameAndType 45 12), (0, u "TIMES"), (0, .integer 2147483647), (0, .methodref 48 49), (0, .class_ 50), (0, .nameAndType 51 52), (0, u "com/example/dasv/dasv/model/OperatorIsArithmeticPinLaw"), (0, u "pick"), (0, u "(I)Lcom/example/dasv/dasv/model/Expression$Operator;"), (0, .methodref 8 54), (0, .nameAndType 55 56), (0, u "isArithmetic"), (0, u "()Z"), (3, u "law"), (0, u "(I)Z")] 6

def k1m0 : Method := { name := "<init>", desc := "()V", sig := { parameters := [], returnType := none }, accessFlags := 1, code := none }
def k1c1 : Code := { maxStack := 2, maxLocals := 1, code := method_2_code, exceptionTable := #[], attributes := #[] }
def k1m1 : Method := { name := "pick", desc := "(I)Lcom/example/dasv/dasv/model/Expression$Operator;", sig := { parameters := [.int], returnType := some (.object "com/example/dasv/dasv/model/Expression$Operator") }, accessFlags := 10, code := some k1c1 }
def k1c2 : Code := { maxStack := 2, maxLocals := 4, code := code, exceptionTable := #[], attributes := #[] }
def k1m2 : Method := { name := "law", desc := "(I)Z", sig := { parameters := [.int], returnType := some .boolean }, accessFlags := 9, code := some k1c2 }
/-- com/example/dasv/dasv/model/OperatorIsArithmeticPinLaw -/
def k1 : Class := { plain "com/example/dasv/dasv/model/OperatorIsArithmeticPinLaw" (some 0) with
  accessFlags := 49
  interfaces := #[]
  cf := some (fileOf pool1 48 #[] #[{ accessFlags := 1, nameIndex := 5, descriptorIndex := 6, attributes := #[] }, { accessFlags := 10, nameIndex := 51, descriptorIndex := 52, attributes := #[] }, { accessFlags := 9, nameIndex := 60, descriptorIndex := 61, attributes := #[] }] 49 2 #[] #[])
  fields := #[]
  methods := #[k1m0, k1m1, k1m2]
  instanceTypes := #[]
  staticTypes := #[]
  resolved := Array.replicate 68 none
  statics := none }

def pool2 : Array CpInfo := pool [(1, .class_ 2), (0, u "java/lang/constant/Constable"), (0, .class_ 4), (0, u "java/lang/Object")] 6

/-- java/lang/constant/Constable -/
def k2 : Class := { plain "java/lang/constant/Constable" (some 0) with
  accessFlags := 1537
  interfaces := #[]
  cf := some (fileOf pool2 1 #[] #[] 1537 3 #[] #[])
  fields := #[]
  methods := #[]
  instanceTypes := #[]
  staticTypes := #[]
  resolved := Array.replicate 11 none
  statics := none }

def pool3 : Array CpInfo := pool [(1, .class_ 2), (0, u "java/lang/Comparable"), (0, .class_ 4), (0, u "java/lang/Object")] 7

/-- java/lang/Comparable -/
def k3 : Class := { plain "java/lang/Comparable" (some 0) with
  accessFlags := 1537
  interfaces := #[]
  cf := some (fileOf pool3 1 #[] #[] 1537 3 #[] #[])
  fields := #[]
  methods := #[]
  instanceTypes := #[]
  staticTypes := #[]
  resolved := Array.replicate 12 none
  statics := none }

def pool4 : Array CpInfo := pool [(1, .class_ 2), (0, u "java/io/Serializable"), (0, .class_ 4), (0, u "java/lang/Object")] 2

/-- java/io/Serializable -/
def k4 : Class := { plain "java/io/Serializable" (some 0) with
  accessFlags := 1537
  interfaces := #[]
  cf := some (fileOf pool4 1 #[] #[] 1537 3 #[] #[])
  fields := #[]
  methods := #[]
  instanceTypes := #[]
  staticTypes := #[]
  resolved := Array.replicate 7 none
  statics := none }

def pool5 : Array CpInfo := pool [(2, .class_ 4), (1, u "java/lang/Enum"), (0, u "name"), (0, u "Ljava/lang/String;"), (2, u "ordinal"), (0, u "I"), (1, .class_ 14), (1, u "java/lang/Object"), (4, u "hash"), (86, .class_ 108), (1, u "java/lang/Enum$EnumDesc"), (2, .class_ 112), (0, u "java/lang/constant/Constable"), (0, .class_ 114), (0, u "java/lang/Comparable"), (0, .class_ 116), (0, u "java/io/Serializable")] 87

/-- java/lang/Enum -/
def k5 : Class := { plain "java/lang/Enum" (some 0) with
  accessFlags := 1057
  interfaces := #[2, 3, 4]
  cf := some (fileOf pool5 2 #[.nestMembers #[106]] #[] 1057 12 #[111, 113, 115] #[{ accessFlags := 18, nameIndex := 5, descriptorIndex := 6, attributes := #[] }, { accessFlags := 18, nameIndex := 9, descriptorIndex := 10, attributes := #[] }, { accessFlags := 2, nameIndex := 19, descriptorIndex := 10, attributes := #[] }])
  fields := #[{ name := "name", type := (.object "java/lang/String"), accessFlags := 18, slot := 0, constantValue := 0 }, { name := "ordinal", type := .int, accessFlags := 18, slot := 1, constantValue := 0 }, { name := "hash", type := .int, accessFlags := 2, slot := 2, constantValue := 0 }]
  methods := #[]
  instanceTypes := #[(.object "java/lang/String"), .int, .int]
  staticTypes := #[]
  resolved := Array.replicate 204 none
  statics := none }

def pool6 : Array CpInfo := pool [(1, .class_ 2), (0, u "com/example/dasv/dasv/model/Expression$Operator"), (2, u "AND"), (0, u "Lcom/example/dasv/dasv/model/Expression$Operator;"), (2, u "OR"), (2, u "IMPLIES"), (2, u "EQUALS"), (2, u "DIFFERS"), (2, u "LESS"), (2, u "AT_MOST"), (2, u "GREATER"), (2, u "AT_LEAST"), (0, .fieldref 1 32), (0, .nameAndType 33 6), (0, u "PLUS"), (0, .fieldref 1 35), (0, .nameAndType 36 6), (0, u "MINUS"), (0, .fieldref 1 38), (0, .nameAndType 39 6), (0, u "TIMES"), (2, u "$VALUES"), (0, u "[Lcom/example/dasv/dasv/model/Expression$Operator;"), (6, .class_ 52), (1, u "java/lang/Enum"), (32, .class_ 87), (1, u "com/example/dasv/dasv/model/Expression"), (46, u "isArithmetic"), (0, u "()Z")] 10

def k6c0 : Code := { maxStack := 2, maxLocals := 1, code := prog_47_method_4_code, exceptionTable := #[], attributes := #[] }
def k6m0 : Method := { name := "isArithmetic", desc := "()Z", sig := { parameters := [], returnType := some .boolean }, accessFlags := 1, code := some k6c0 }
/-- com/example/dasv/dasv/model/Expression$Operator -/
def k6 : Class := { plain "com/example/dasv/dasv/model/Expression$Operator" (some 5) with
  accessFlags := 16433
  interfaces := #[]
  cf := some (fileOf pool6 1 #[.nestHost 85] #[{ accessFlags := 1, nameIndex := 134, descriptorIndex := 135, attributes := #[] }] 16433 50 #[] #[{ accessFlags := 16409, nameIndex := 5, descriptorIndex := 6, attributes := #[] }, { accessFlags := 16409, nameIndex := 9, descriptorIndex := 6, attributes := #[] }, { accessFlags := 16409, nameIndex := 12, descriptorIndex := 6, attributes := #[] }, { accessFlags := 16409, nameIndex := 15, descriptorIndex := 6, attributes := #[] }, { accessFlags := 16409, nameIndex := 18, descriptorIndex := 6, attributes := #[] }, { accessFlags := 16409, nameIndex := 21, descriptorIndex := 6, attributes := #[] }, { accessFlags := 16409, nameIndex := 24, descriptorIndex := 6, attributes := #[] }, { accessFlags := 16409, nameIndex := 27, descriptorIndex := 6, attributes := #[] }, { accessFlags := 16409, nameIndex := 30, descriptorIndex := 6, attributes := #[] }, { accessFlags := 16409, nameIndex := 33, descriptorIndex := 6, attributes := #[] }, { accessFlags := 16409, nameIndex := 36, descriptorIndex := 6, attributes := #[] }, { accessFlags := 16409, nameIndex := 39, descriptorIndex := 6, attributes := #[] }, { accessFlags := 4122, nameIndex := 42, descriptorIndex := 43, attributes := #[] }])
  fields := #[{ name := "AND", type := (.object "com/example/dasv/dasv/model/Expression$Operator"), accessFlags := 16409, slot := 0, constantValue := 0 }, { name := "OR", type := (.object "com/example/dasv/dasv/model/Expression$Operator"), accessFlags := 16409, slot := 1, constantValue := 0 }, { name := "IMPLIES", type := (.object "com/example/dasv/dasv/model/Expression$Operator"), accessFlags := 16409, slot := 2, constantValue := 0 }, { name := "EQUALS", type := (.object "com/example/dasv/dasv/model/Expression$Operator"), accessFlags := 16409, slot := 3, constantValue := 0 }, { name := "DIFFERS", type := (.object "com/example/dasv/dasv/model/Expression$Operator"), accessFlags := 16409, slot := 4, constantValue := 0 }, { name := "LESS", type := (.object "com/example/dasv/dasv/model/Expression$Operator"), accessFlags := 16409, slot := 5, constantValue := 0 }, { name := "AT_MOST", type := (.object "com/example/dasv/dasv/model/Expression$Operator"), accessFlags := 16409, slot := 6, constantValue := 0 }, { name := "GREATER", type := (.object "com/example/dasv/dasv/model/Expression$Operator"), accessFlags := 16409, slot := 7, constantValue := 0 }, { name := "AT_LEAST", type := (.object "com/example/dasv/dasv/model/Expression$Operator"), accessFlags := 16409, slot := 8, constantValue := 0 }, { name := "PLUS", type := (.object "com/example/dasv/dasv/model/Expression$Operator"), accessFlags := 16409, slot := 9, constantValue := 0 }, { name := "MINUS", type := (.object "com/example/dasv/dasv/model/Expression$Operator"), accessFlags := 16409, slot := 10, constantValue := 0 }, { name := "TIMES", type := (.object "com/example/dasv/dasv/model/Expression$Operator"), accessFlags := 16409, slot := 11, constantValue := 0 }, { name := "$VALUES", type := (.array (.object "com/example/dasv/dasv/model/Expression$Operator")), accessFlags := 4122, slot := 12, constantValue := 0 }]
  methods := #[k6m0]
  instanceTypes := #[(.object "java/lang/String"), .int, .int]
  staticTypes := #[(.object "com/example/dasv/dasv/model/Expression$Operator"), (.object "com/example/dasv/dasv/model/Expression$Operator"), (.object "com/example/dasv/dasv/model/Expression$Operator"), (.object "com/example/dasv/dasv/model/Expression$Operator"), (.object "com/example/dasv/dasv/model/Expression$Operator"), (.object "com/example/dasv/dasv/model/Expression$Operator"), (.object "com/example/dasv/dasv/model/Expression$Operator"), (.object "com/example/dasv/dasv/model/Expression$Operator"), (.object "com/example/dasv/dasv/model/Expression$Operator"), (.object "com/example/dasv/dasv/model/Expression$Operator"), (.object "com/example/dasv/dasv/model/Expression$Operator"), (.object "com/example/dasv/dasv/model/Expression$Operator"), (.array (.object "com/example/dasv/dasv/model/Expression$Operator"))]
  resolved := Array.replicate 146 none
  statics := some 0 }

def pool7 : Array CpInfo := pool [(1, u "java/lang/Cloneable"), (0, .class_ 1), (0, u "java/lang/Object"), (0, .class_ 3)] 3

/-- java/lang/Cloneable -/
def k7 : Class := { plain "java/lang/Cloneable" (some 0) with
  accessFlags := 1537
  interfaces := #[]
  cf := some (fileOf pool7 2 #[] #[] 1537 4 #[] #[])
  fields := #[]
  methods := #[]
  instanceTypes := #[]
  staticTypes := #[]
  resolved := Array.replicate 8 none
  statics := none }

/-- the primitive byte -/
def k8 : Class := { plain "byte" none with kind := .primitive 'B', accessFlags := 0x411 }
/-- [B -/
def k9 : Class := { plain "[B" (some 0) with kind := .array 8 .byte, interfaces := #[7, 4], accessFlags := 1041 }

/-- the primitive int -/
def k10 : Class := { plain "int" none with kind := .primitive 'I', accessFlags := 0x411 }
/-- [I -/
def k11 : Class := { plain "[I" (some 0) with kind := .array 10 .int, interfaces := #[7, 4], accessFlags := 1041 }

def heap : Heap := #[{ cls := 6, slots := #[.ref 1, .ref 2, .ref 3, .ref 4, .ref 5, .ref 6, .ref 7, .ref 8, .ref 9, .ref 10, .ref 11, .ref 12, .null], vm := .statics 6 },
  { cls := 6, slots := #[.null, .int 0, .int 0], vm := .none },
  { cls := 6, slots := #[.null, .int 1, .int 0], vm := .none },
  { cls := 6, slots := #[.null, .int 2, .int 0], vm := .none },
  { cls := 6, slots := #[.null, .int 3, .int 0], vm := .none },
  { cls := 6, slots := #[.null, .int 4, .int 0], vm := .none },
  { cls := 6, slots := #[.null, .int 5, .int 0], vm := .none },
  { cls := 6, slots := #[.null, .int 6, .int 0], vm := .none },
  { cls := 6, slots := #[.null, .int 7, .int 0], vm := .none },
  { cls := 6, slots := #[.null, .int 8, .int 0], vm := .none },
  { cls := 6, slots := #[.null, .int 9, .int 0], vm := .none },
  { cls := 6, slots := #[.null, .int 10, .int 0], vm := .none },
  { cls := 6, slots := #[.null, .int 11, .int 0], vm := .none }]
def classes : Array Class := #[k0, k1, k2, k3, k4, k5, k6, k7, k8, k9, k10, k11]
def interned : List (Array UInt16 × Addr) := []
def slotsUsed : Nat := 49
def theMethod : MethodId := ⟨1, 2⟩
def args0 : Array Value := #[.int 5]
def aboutOver (below : List Frame) : State where
  vm := { classes := classes, interned := interned.toArray }
  heap := heap
  slotsUsed := slotsUsed
  threads := #[{ frames := .invoking theMethod args0 :: below }]
def below0 : List Frame := [.native { method := ⟨0, 0⟩, args := #[] }]
def about1 : State := aboutOver below0
def p0 : Program := .bare "" "" ""
def e0 : Env := launch0.env 0 0 0
theorem w_frames : about1.frames = Frame.invoking theMethod args0 :: below0 := rfl
set_option maxRecDepth 65536 in
theorem w_args : argsFit about1.vm theMethod args0 = true := by decide +kernel
set_option maxRecDepth 65536 in
theorem w_heap : heapFits about1 = true := by decide +kernel
set_option maxRecDepth 65536 in
theorem w_runnable : about1.curStatus? = some .runnable := by decide +kernel
set_option maxRecDepth 65536 in
theorem w_alone : about1.alone = true := by decide +kernel
set_option maxRecDepth 65536 in
theorem w_named : about1.methodNamed? x = some theMethod := by decide +kernel
set_option maxRecDepth 65536 in
theorem w_hears : about1.hears theMethod below0 = true := by decide +kernel
set_option maxRecDepth 65536 in
theorem w_ripe : about1.ripe theMethod args0 below0 = true := by decide +kernel
theorem w_running : about1.status = .running := rfl
set_option maxRecDepth 65536 in
theorem w_room : about1.hasRoom e0.platform room_1 = true :=
  launch0.hasRoom_least _ room_1 (by decide +kernel) (by decide +kernel) (by decide +kernel) (by decide +kernel) (by decide +kernel) (by decide +kernel)
theorem allAtoms_all (ts : List Jvm.Cond) (a : Array Jvm.Value) (st : Jvm.State) : (allAtoms ts).before a st = ts.all (fun c => c.before a st) := by
  induction ts with
  | nil => rfl
  | cons c t ih =>
    show (Jvm.Cond.and c (allAtoms t)).before a st = _
    rw [Jvm.Cond.before_and, ih, List.all_cons]
def words1 : List Jvm.Cond := Jvm.Cond.code x code maxLocals ret :: tables_1
/-- a 'code' word, met by the world's own term for the bytes: nothing is compared byte by byte -/
theorem code_word {y : MethodName} {bytes : ByteArray} {mx : Nat} {rt : Option FieldType} {a : Array Value} {s : State} {m : MethodId} {meth : Method} {c : Code} (h1 : s.methodNamed? y = some m) (h2 : s.vm.method? m = some meth) (h3 : meth.code = some c) (h4 : c.code = bytes)
    (h5 : (c.maxLocals == mx && c.exceptionTable.isEmpty && decide (c.maxStack ≤ mostOperands) && decide (meth.sig.returnType = rt) && !meth.locks && decide (parseMethodDescriptor y.desc = some meth.sig)) = true) : (Jvm.Cond.code y bytes mx rt).before a s = true := by
  simp only [Bool.and_eq_true, beq_iff_eq, Bool.not_eq_true', decide_eq_true_eq] at h5
  obtain ⟨⟨⟨⟨⟨g1, g2⟩, g3⟩, g4⟩, g5⟩, g6⟩ := h5
  simp [Cond.before, Cond.holds, Cond.value, h1, h2, h3, h4, g1, g2, g3, g4, g5, g6]
def isCode : Jvm.Cond → Bool
  | .code _ _ _ _ => true
  | _ => false
theorem all_split {L : List Jvm.Cond} {P : Jvm.Cond → Bool} (h1 : L.all (fun c => isCode c || P c) = true) (h2 : ∀ c ∈ L.filter isCode, P c = true) : L.all P = true := by
  refine List.all_eq_true.mpr fun c hc => ?_
  have h := List.all_eq_true.mp h1 c hc
  rcases Bool.eq_false_or_eq_true (isCode c) with hi | hi
  · exact h2 c (List.mem_filter.mpr ⟨hc, hi⟩)
  · simpa [hi] using h
set_option maxRecDepth 65536 in
theorem w_c0 : (Jvm.Cond.code x code maxLocals ret).before args0 about1 = true := code_word (m := ⟨1, 2⟩) (meth := k1m2) (c := k1c2) (by decide +kernel) rfl rfl rfl (by decide +kernel)
set_option maxRecDepth 65536 in
theorem w_c1 : (Jvm.Cond.code ({ cls := "com/example/dasv/dasv/model/OperatorIsArithmeticPinLaw", name := "pick", desc := "(I)Lcom/example/dasv/dasv/model/Expression$Operator;" } : Jvm.MethodName) method_2_code (1 : Nat) (Option.some (Jvm.ClassFile.FieldType.object "com/example/dasv/dasv/model/Expression$Operator"))).before args0 about1 = true := code_word (m := ⟨1, 1⟩) (meth := k1m1) (c := k1c1) (by decide +kernel) rfl rfl rfl (by decide +kernel)
set_option maxRecDepth 65536 in
theorem w_c2 : (Jvm.Cond.code ({ cls := "com/example/dasv/dasv/model/Expression$Operator", name := "isArithmetic", desc := "()Z" } : Jvm.MethodName) prog_47_method_4_code (1 : Nat) (Option.some Jvm.ClassFile.FieldType.boolean)).before args0 about1 = true := code_word (m := ⟨6, 0⟩) (meth := k6m0) (c := k6c0) (by decide +kernel) rfl rfl rfl (by decide +kernel)
def codes1 : List Jvm.Cond := [Jvm.Cond.code x code maxLocals ret, Jvm.Cond.code ({ cls := "com/example/dasv/dasv/model/OperatorIsArithmeticPinLaw", name := "pick", desc := "(I)Lcom/example/dasv/dasv/model/Expression$Operator;" } : Jvm.MethodName) method_2_code (1 : Nat) (Option.some (Jvm.ClassFile.FieldType.object "com/example/dasv/dasv/model/Expression$Operator")), Jvm.Cond.code ({ cls := "com/example/dasv/dasv/model/Expression$Operator", name := "isArithmetic", desc := "()Z" } : Jvm.MethodName) prog_47_method_4_code (1 : Nat) (Option.some Jvm.ClassFile.FieldType.boolean)]
set_option maxRecDepth 65536 in
theorem codes_eq : words1.filter isCode = codes1 := rfl
theorem w_codes : ∀ c ∈ words1.filter isCode, c.before args0 about1 = true := by
  rw [codes_eq]
  intro c hc
  simp only [codes1, List.mem_cons, List.not_mem_nil, or_false] at hc
  rcases hc with rfl | rfl | rfl
  · exact w_c0
  · exact w_c1
  · exact w_c2
set_option maxRecDepth 65536 in
theorem w_t1 : (words1.take 24).all (fun c => isCode c || c.before args0 about1) = true := by decide +kernel
set_option maxRecDepth 65536 in
theorem w_t2 : (words1.drop 24).all (fun c => isCode c || c.before args0 about1) = true := by decide +kernel
theorem w_tables : (allAtoms (Jvm.Cond.code x code maxLocals ret :: tables_1)).before args0 about1 = true := by
  rw [allAtoms_all]
  show words1.all (fun c => c.before args0 about1) = true
  refine all_split ?_ w_codes
  rw [← List.take_append_drop 24 words1, List.all_append, w_t1, w_t2]
  rfl
set_option maxRecDepth 65536 in
theorem w_case : (Jvm.Cond.and given_1 narrow_1).before args0 about1 = true := by decide +kernel
theorem w_applies : (headSpec (Jvm.Cond.code x code maxLocals ret :: tables_1) room_1).applies x e0.platform about1 = true :=
  (Spec.applies_iff w_frames).mpr ⟨w_running, w_runnable, w_alone, w_named, w_hears, w_ripe, w_room, w_tables⟩
theorem atStart : AtStart classFile x code maxLocals ret World_1 tables_1 room_1 Calls_1 rest_1 Pre_1 launch0 p0 e0 about1 theMethod args0 below0 :=
  ⟨lists_1, trivial, launch0.admits_env _ _ _, launch0.least_env, fairChoices_fair.cas, fairChoices_fair.clock, w_frames, w_args, w_heap, w_applies, trivial, trivial, w_case⟩
end start1
theorem witness_1 : WitnessClaimed_1 := ⟨start1.p0, start1.e0, start1.about1, start1.theMethod, start1.args0, start1.below0, start1.atStart⟩
end Jvm.Pilot.@@N@@
