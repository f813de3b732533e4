import JvmDerived
import JvmDerived.Pilot.@@N@@Statement
import JvmDerived.Pilot.@@N@@Code
set_option linter.unusedVariables false
set_option linter.unusedSimpArgs false
namespace Jvm.RoadKit
open Sem ClassFile Op Lib Jvm.Stand Jvm.Free Jvm.LawKit
section New
variable {p : Program} {l : Launch} {e : Env} {R : Room} {s : State} {m : MethodId} {args : Array Value} {below : List Frame} {meth : Method} {c : Code} {T : State} {locs : List Loc} {cells slots : Nat}
theorem retI (X : Stand p l e R s m args below meth c T locs cells slots) (hx : p.tables.exec = Jvm.exec) {pc : Nat} {Ls : Array Slot} {z : Int32} {rest : List Value} (hret : meth.sig.returnType = some .int) (hd : decode c.code pc = .ok (.ireturn, 1)) {fs : List Frame}
    (hl : ∀ (f : JFrame) (acts : List Action), f.method = m → f.locked = none → f.entered = [] → (doReturn e (T.setTop f) acts (some (.int z))).1 = T.setFrames fs) : Steps p.tables e below (T.setTop (mkF m pc Ls (.int z :: rest))) (T.setFrames fs) := by
  have hm' : T.vm.method? m = some meth := X.method'
  have hn : narrow .int (.int z) = .int z := rfl
  show Steps p.tables e below (T.setTop { method := m, pc := pc, locals := Ls, stack := _ :: rest, locked := none }) _
  jvm_step X.here [X.here.top, hx, hd, hm', hret, hn]
  first | (intro acts; rw [hl _ acts rfl rfl rfl]) | rw [hl _ _ rfl rfl rfl]
  exact Steps.refl _
end New
end Jvm.RoadKit
namespace Jvm.Pilot.@@N@@
open Jvm Jvm.ClassFile Sem Op Lib Jvm.Free Jvm.Stand Jvm.LawKit Jvm.RoadKit Bundle Jvm.Pilot.@@N@@.Jvm.D
def own_key (p1 p2 p3 : Int32) : Int64 := ((p1.toInt64 <<< ((32 : Int32) &&& 0x3f).toInt64) ||| (if p3 = (0 : Int32) then (0 : Int64) else (2147483648 : Int64))) ||| p2.toInt64
def own_stateOf (q : Int64) : Int32 := (q.toUInt64 >>> ((32 : Int32) &&& 0x3f).toInt64.toUInt64).toInt64.toInt32
def own_reachedOf (q : Int64) : Int32 := (q &&& (2147483647 : Int64)).toInt32
def own_settledOf (q : Int64) : Int32 := if lcmpW (q &&& (2147483648 : Int64)) (0 : Int64) = (0 : Int32) then 0 else 1
theorem own_r (p2 : Int32) : 0 ≤ (p2 &&& (2147483647 : Int32)).toInt ∧ (p2 &&& (2147483647 : Int32)).toInt < 2147483648 := by
  have h := c_and p2 (2147483647 : Int32) (by decide)
  have e : (2147483647 : Int32).toInt = 2147483647 := by decide
  omega
def own_b (p3 : Int32) : Int := if p3 = (0 : Int32) then 0 else 2147483648
theorem own_keyInt (p1 p2 p3 : Int32) : (own_key p1 (p2 &&& (2147483647 : Int32)) p3).toInt = p1.toInt * 4294967296 + own_b p3 + (p2 &&& (2147483647 : Int32)).toInt := by
  have hr := own_r p2
  have r1 := rng32 p1
  generalize (p2 &&& (2147483647 : Int32)) = r at *
  have e1 := c_lshl p1.toInt64 (32 : Int32) 32 (by decide)
  have e0 := c_i2l p1
  have er := c_i2l r
  rw [e0] at e1
  unfold own_key
  generalize p1.toInt64 <<< ((32 : Int32) &&& 0x3f).toInt64 = a at *
  have ra := rng64 a
  have ea : a.toInt = p1.toInt * 4294967296 := by omega
  have hb : (if p3 = (0 : Int32) then (0 : Int64) else (2147483648 : Int64)).toInt = own_b p3 := by
    unfold own_b; split <;> decide
  have hb2 : own_b p3 = 0 ∨ own_b p3 = 2147483648 := by unfold own_b; split <;> simp
  generalize (if p3 = (0 : Int32) then (0 : Int64) else (2147483648 : Int64)) = b at *
  have e2 := c_orL a b 32 (by decide) 4294967296 (by decide) (by omega) (by omega) (by omega)
  have r2 := rng64 (a ||| b)
  have e3 : (a ||| b).toInt = p1.toInt * 4294967296 + own_b p3 := by omega
  have e4 := c_orL (a ||| b) r.toInt64 31 (by decide) 2147483648 (by decide) (by omega) (by omega) (by omega)
  have r3 := rng64 (a ||| b ||| r.toInt64)
  omega
theorem own_state (p1 p2 p3 : Int32) : own_stateOf (own_key p1 (p2 &&& (2147483647 : Int32)) p3) = p1 := by
  have h := own_keyInt p1 p2 p3
  have hr := own_r p2
  have r1 := rng32 p1
  have hb2 : own_b p3 = 0 ∨ own_b p3 = 2147483648 := by unfold own_b; split <;> simp
  generalize own_key p1 (p2 &&& (2147483647 : Int32)) p3 = k at *
  unfold own_stateOf
  have e1 := c_lushr k (32 : Int32) 32 (by decide) (by decide)
  generalize (k.toUInt64 >>> ((32 : Int32) &&& 0x3f).toInt64.toUInt64).toInt64 = q at *
  have e2 := c_l2i q
  have r2 := rng32 q.toInt32
  apply Int32.toInt_inj.mp
  omega
theorem own_reached (p1 p2 p3 : Int32) : own_reachedOf (own_key p1 (p2 &&& (2147483647 : Int32)) p3) = (p2 &&& (2147483647 : Int32)) := by
  have h := own_keyInt p1 p2 p3
  have hr := own_r p2
  have hb2 : own_b p3 = 0 ∨ own_b p3 = 2147483648 := by unfold own_b; split <;> simp
  generalize own_key p1 (p2 &&& (2147483647 : Int32)) p3 = k at *
  unfold own_reachedOf
  have e1 := c_maskL k (2147483647 : Int64) 31 (by decide) (by decide)
  generalize (k &&& (2147483647 : Int64)) = q at *
  have e2 := c_l2i q
  have r2 := rng32 q.toInt32
  apply Int32.toInt_inj.mp
  omega
theorem own_bit (k : Int64) : (k &&& (2147483648 : Int64)) = 0 ↔ k.toInt / 2147483648 % 2 = 0 := by
  have e : (k &&& (2147483648 : Int64)).toBitVec = if k.toBitVec.getLsbD 31 then BitVec.twoPow 64 31 else 0#64 := by
    rw [Int64.toBitVec_and, show (2147483648 : Int64).toBitVec = BitVec.twoPow 64 31 from by decide +kernel, BitVec.and_twoPow]
  have hn : k.toBitVec.getLsbD 31 = decide (k.toBitVec.toNat / 2 ^ 31 % 2 = 1) := by
    rw [BitVec.getLsbD, Nat.testBit_eq_decide_div_mod_eq]
  have ht : k.toInt % 18446744073709551616 = (k.toBitVec.toNat : Int) := by
    have := BitVec.toInt_eq_toNat_bmod k.toBitVec
    have h2 : k.toInt = k.toBitVec.toInt := rfl
    have h3 := bm64 (k.toBitVec.toNat : Int)
    have h4 := k.toBitVec.isLt
    rw [h2, this]
    generalize ((k.toBitVec.toNat : Int).bmod (2 ^ 64)) = z at *
    omega
  rw [← Int64.toBitVec_inj, e, hn]
  by_cases q : k.toBitVec.toNat / 2 ^ 31 % 2 = 1
  · simp only [q, decide_true, if_true]
    constructor
    · intro h; exact absurd h (by decide +kernel)
    · intro h; omega
  · simp only [q, decide_false]
    constructor
    · intro _; omega
    · intro _; rfl
theorem own_settled (p1 p2 p3 : Int32) (h01 : p3 = 0 ∨ p3 = 1) : own_settledOf (own_key p1 (p2 &&& (2147483647 : Int32)) p3) = p3 := by
  have h := own_keyInt p1 p2 p3
  have hr := own_r p2
  have hk := own_bit (own_key p1 (p2 &&& (2147483647 : Int32)) p3)
  unfold own_settledOf
  generalize own_key p1 (p2 &&& (2147483647 : Int32)) p3 = k at *
  rcases h01 with rfl | rfl
  · exact if_pos ((lw_eq _ _).mpr (hk.mpr (by simp [own_b] at h; omega)))
  · exact if_neg (fun q => by have := hk.mp ((lw_eq _ _).mp q); simp [own_b] at h; omega)
theorem own_expect (p1 p2 p3 : Int32) : own_key p1 (p2 &&& (2147483647 : Int32)) p3 = p1.toInt64 * (4294967296 : Int64) + (if p3 = (0 : Int32) then (0 : Int64) else (2147483648 : Int64)) + (p2 &&& (2147483647 : Int32)).toInt64 := by
  have h := own_keyInt p1 p2 p3
  have hr := own_r p2
  have r1 := rng32 p1
  have hb : (if p3 = (0 : Int32) then (0 : Int64) else (2147483648 : Int64)).toInt = own_b p3 := by
    unfold own_b; split <;> decide
  have hb2 : own_b p3 = 0 ∨ own_b p3 = 2147483648 := by unfold own_b; split <;> simp
  apply Int64.toInt_inj.mp
  rw [h]
  generalize (p2 &&& (2147483647 : Int32)) = r at *
  generalize (if p3 = (0 : Int32) then (0 : Int64) else (2147483648 : Int64)) = b at *
  have e0 := c_lmul p1.toInt64 (4294967296 : Int64)
  have ec : (4294967296 : Int64).toInt = 4294967296 := by decide
  rw [c_i2l, ec] at e0
  generalize p1.toInt64 * (4294967296 : Int64) = A at *
  have e1 := c_ladd A b
  have e2 := c_ladd (A + b) r.toInt64
  rw [c_i2l] at e2
  generalize A + b = C at *
  generalize C + r.toInt64 = D at *
  have q1 := rng64 A
  have q2 := rng64 C
  have q3 := rng64 D
  omega
theorem d1_0 : decode prog_88_method_6_code 0 = .ok (.iload_n 0, 1) := by decide +kernel
theorem d1_1 : decode prog_88_method_6_code 1 = .ok (.i2l, 1) := by decide +kernel
theorem d1_2 : decode prog_88_method_6_code 2 = .ok (.bipush 32, 2) := by decide +kernel
theorem d1_4 : decode prog_88_method_6_code 4 = .ok (.lshl, 1) := by decide +kernel
theorem d1_5 : decode prog_88_method_6_code 5 = .ok (.iload_n 2, 1) := by decide +kernel
theorem d1_6 : decode prog_88_method_6_code 6 = .ok (.ifCond .eq 9, 3) := by decide +kernel
theorem d1_15 : decode prog_88_method_6_code 15 = .ok (.lconst 0, 1) := by decide +kernel
theorem d1_9 : decode prog_88_method_6_code 9 = .ok (.ldc2_w 95, 3) := by decide +kernel
theorem d1_12 : decode prog_88_method_6_code 12 = .ok (.goto 4, 3) := by decide +kernel
theorem d1_16 : decode prog_88_method_6_code 16 = .ok (.lor, 1) := by decide +kernel
theorem d1_17 : decode prog_88_method_6_code 17 = .ok (.iload_n 1, 1) := by decide +kernel
theorem d1_18 : decode prog_88_method_6_code 18 = .ok (.i2l, 1) := by decide +kernel
theorem d1_19 : decode prog_88_method_6_code 19 = .ok (.lor, 1) := by decide +kernel
theorem d1_20 : decode prog_88_method_6_code 20 = .ok (.lreturn, 1) := by decide +kernel
theorem pn_c0 : plainName "com/example/utopia/utopia/mdp/Strategy" = true := by first | (simp [plainName, overriddenIn]; done) | decide +kernel
theorem ef_rm1 (m : MethodId) (x0 : Int32) (x1 : Int32) (x2 : Int32) : entryFrame m #[(.int x0), (.int x1), (.int x2)] 3 = mkF m 0 #[.val (.int x0), .val (.int x1), .val (.int x2)] [] := by first | (simp [entryFrame, mkF, argsToLocals, Value.category]; done) | rfl
def Q_rm1 (Z : State) (p1 p2 p3 : Int32) (h0 : Heap) (n0 : Nat) (v : Option Value) (h : Heap) (L : List Loc) : Prop := v = some (.long (own_key p1 p2 p3)) ∧ Fr n0 L ∧ h = h0
set_option maxRecDepth 65536 in
set_option maxHeartbeats 40000000 in
theorem rm1 (l : Launch) (Z : State) (a0 : Array Value) (hw : ∀ d ∈ tables_1, d.before a0 Z = true) (ws : List Jvm.Cond) (p1 p2 p3 : Int32) (h0 : Heap) (n0 : Nat) (Z0 : n0 ≤ h0.size) :
    MetFree l (⟨"com/example/utopia/utopia/mdp/Strategy", "key", "(IIZ)J"⟩ : MethodName) (head1 (Jvm.Cond.code (⟨"com/example/utopia/utopia/mdp/Strategy", "key", "(IIZ)J"⟩ : MethodName) prog_88_method_6_code 3 (some .long) :: ws) ({ frames := 0, cells := 0, slots := 0, locals := 0 } : Room)) (fun a U => a = #[(.int p1), (.int p2), (.int p3)] ∧ Z.Warmed39 U.vm ∧ U.heap = h0) (fun _ _ _ _ _ => True) (fun _ U o U' => ∃ v L, o = .returned v ∧ Q_rm1 Z p1 p2 p3 h0 n0 v U'.heap L ∧ FrameEnd U o U' L ({ frames := 0, cells := 0, slots := 0, locals := 0 } : Room).cells ({ frames := 0, cells := 0, slots := 0, locals := 0 } : Room).slots) := by
  refine MetFree.of_bodySF (plainFor_of_name pn_c0) hisR ?_
  intro p e s m args below meth c s₁ Bd hml0 hP hK
  obtain ⟨rfl, hZ, hh⟩ := hP
  have hx := Bd.exec
  have hby := Bd.bytes
  have hml : c.maxLocals = 3 := hml0
  have hown : s.vm.findClass "com/example/utopia/utopia/mdp/Strategy" = some m.cls := findClass_of_methodNamed Bd.named
  have hnm := (name_of_methodNamed Bd.named Bd.method).1
  have X0 : Stand p l e ({ frames := 0, cells := 0, slots := 0, locals := 0 } : Room) s m #[(.int p1), (.int p2), (.int p3)] below meth c s₁ [] 0 0 := Stand.of_body Bd
  have e0 : s₁.heap = h0 := by rw [← hh, Bd.state]; rfl
  have N0 := Fr.nil n0
  have pre0 : ∀ t, Steps p.tables e below (s₁.setTop (mkF m 0 #[.val (.int p1), .val (.int p2), .val (.int p3)] [])) t → Steps p.tables e below (s₁.setTop (entryFrame m #[(.int p1), (.int p2), (.int p3)] 3)) t := fun t k => castTop (ef_rm1 m p1 p2 p3) k
  have k1 : ∀ t, Steps p.tables e below (s₁.setTop (mkF m 6 #[.val (.int p1), .val (.int p2), .val (.int p3)] [(.int p3), (.long ((p1.toInt64) <<< ((32 : Int32) &&& 0x3f).toInt64))])) t → Steps p.tables e below (s₁.setTop (entryFrame m #[(.int p1), (.int p2), (.int p3)] 3)) t := fun t kt => pre0 t (by
      let A0 : Array Slot := #[.val (.int p1), .val (.int p2), .val (.int p3)]
      show Steps p.tables e below (s₁.setTop (mkF m 0 A0 [])) _
      refine XS.iloadN X0.here hx rfl (hb hby d1_0) rfl ?_
      show Steps p.tables e below (s₁.setTop (mkF m 1 A0 [(.int p1)])) _
      refine XS.i2l X0.here hx rfl (hb hby d1_1) rfl ?_
      show Steps p.tables e below (s₁.setTop (mkF m 2 A0 [(.long (p1.toInt64))])) _
      refine XS.bipush X0.here hx rfl (hb hby d1_2) ?_
      show Steps p.tables e below (s₁.setTop (mkF m 4 A0 [(.int (32 : Int32)), (.long (p1.toInt64))])) _
      refine XS.lshl X0.here hx rfl (hb hby d1_4) rfl ?_
      show Steps p.tables e below (s₁.setTop (mkF m 5 A0 [(.long ((p1.toInt64) <<< ((32 : Int32) &&& 0x3f).toInt64))])) _
      refine XS.iloadN X0.here hx rfl (hb hby d1_5) rfl ?_
      exact kt)
  obtain ⟨v3, hv3⟩ : ∃ v : Int64, v = (if p3 = (0 : Int32) then (0 : Int64) else (2147483648 : Int64)) := ⟨_, rfl⟩
  have k4 : ∀ t, Steps p.tables e below (s₁.setTop (mkF m 16 #[.val (.int p1), .val (.int p2), .val (.int p3)] [(.long v3), (.long ((p1.toInt64) <<< ((32 : Int32) &&& 0x3f).toInt64))])) t → Steps p.tables e below (s₁.setTop (entryFrame m #[(.int p1), (.int p2), (.int p3)] 3)) t := by
    intro t kt
    by_cases hc6_2 : p3 = (0 : Int32)
    · rw [show v3 = (0 : Int64) from (hv3.trans (if_pos hc6_2))] at kt
      exact k1 t (by
          let A0 : Array Slot := #[.val (.int p1), .val (.int p2), .val (.int p3)]
          show Steps p.tables e below (s₁.setTop (mkF m 6 A0 [(.int p3), (.long ((p1.toInt64) <<< ((32 : Int32) &&& 0x3f).toInt64))])) _
          refine XS.ifYes X0.here hx rfl (pc0 := 6) (pc' := 15) rfl (hb hby d1_6) rfl ((if0 _ _).trans (teq hc6_2).1) (by decide) (by decide) ?_
          show Steps p.tables e below (s₁.setTop (mkF m 15 A0 [(.long ((p1.toInt64) <<< ((32 : Int32) &&& 0x3f).toInt64))])) _
          refine XS.lconst X0.here hx rfl (hb hby d1_15) ?_
          exact kt)
    · rw [show v3 = (2147483648 : Int64) from (hv3.trans (if_neg hc6_2))] at kt
      exact k1 t (by
          let A0 : Array Slot := #[.val (.int p1), .val (.int p2), .val (.int p3)]
          show Steps p.tables e below (s₁.setTop (mkF m 6 A0 [(.int p3), (.long ((p1.toInt64) <<< ((32 : Int32) &&& 0x3f).toInt64))])) _
          refine XS.ifNo X0.here hx rfl (hb hby d1_6) rfl ((if0 _ _).trans (feq hc6_2).1) ?_
          show Steps p.tables e below (s₁.setTop (mkF m 9 A0 [(.long ((p1.toInt64) <<< ((32 : Int32) &&& 0x3f).toInt64))])) _
          refine X0.ldc2Long hx hown (mvT hZ (hw _ (List.mem_of_getElem? (i := 15) rfl))) (g := (mkF m 9 A0 [(.long ((p1.toInt64) <<< ((32 : Int32) &&& 0x3f).toInt64))])) rfl (hb hby d1_9) _ ?_
          show Steps p.tables e below (s₁.setTop (mkF m 12 A0 [(.long (2147483648 : Int64)), (.long ((p1.toInt64) <<< ((32 : Int32) &&& 0x3f).toInt64))])) _
          refine XS.goto X0.here hx rfl (pc0 := 12) (pc' := 16) rfl (hb hby d1_12) (by decide) (by decide) ?_
          exact kt)
  have k5 : ∀ t, Steps p.tables e below (s₁.setTop (mkF m 20 #[.val (.int p1), .val (.int p2), .val (.int p3)] [(.long ((((p1.toInt64) <<< ((32 : Int32) &&& 0x3f).toInt64) ||| v3) ||| (p2.toInt64)))])) t → Steps p.tables e below (s₁.setTop (entryFrame m #[(.int p1), (.int p2), (.int p3)] 3)) t := fun t kt => k4 t (by
      let A0 : Array Slot := #[.val (.int p1), .val (.int p2), .val (.int p3)]
      show Steps p.tables e below (s₁.setTop (mkF m 16 A0 [(.long v3), (.long ((p1.toInt64) <<< ((32 : Int32) &&& 0x3f).toInt64))])) _
      refine XS.lor X0.here hx rfl (hb hby d1_16) rfl ?_
      show Steps p.tables e below (s₁.setTop (mkF m 17 A0 [(.long (((p1.toInt64) <<< ((32 : Int32) &&& 0x3f).toInt64) ||| v3))])) _
      refine XS.iloadN X0.here hx rfl (hb hby d1_17) rfl ?_
      show Steps p.tables e below (s₁.setTop (mkF m 18 A0 [(.int p2), (.long (((p1.toInt64) <<< ((32 : Int32) &&& 0x3f).toInt64) ||| v3))])) _
      refine XS.i2l X0.here hx rfl (hb hby d1_18) rfl ?_
      show Steps p.tables e below (s₁.setTop (mkF m 19 A0 [(.long (p2.toInt64)), (.long (((p1.toInt64) <<< ((32 : Int32) &&& 0x3f).toInt64) ||| v3))])) _
      refine XS.lor X0.here hx rfl (hb hby d1_19) rfl ?_
      exact kt)
  obtain ⟨fs, hr, hrun, hended, hW, hsame⟩ := X0.leave (v := some (.long ((((p1.toInt64) <<< ((32 : Int32) &&& 0x3f).toInt64) ||| v3) ||| (p2.toInt64)))) (fun h => by rw [Bd.returns] at h; cases h)
  refine ⟨_, _, k5 _ ?_, hrun, hended, _, _, rfl, ?_, ⟨_, rfl⟩, hW, hsame.mono (by decide) (by decide)⟩
  · show Steps p.tables e below (s₁.setTop (mkF m 20 #[.val (.int p1), .val (.int p2), .val (.int p3)] [(.long ((((p1.toInt64) <<< ((32 : Int32) &&& 0x3f).toInt64) ||| v3) ||| (p2.toInt64)))])) _
    exact X0.lreturnOut hx Bd.returns (hb hby d1_20) hr
  · show Q_rm1 Z p1 p2 p3 h0 n0 _ s₁.heap _
    rw [e0]
    exact ⟨by rw [hv3]; rfl, N0, rfl⟩
theorem d2_0 : decode prog_88_method_7_code 0 = .ok (.lload_n 0, 1) := by decide +kernel
theorem d2_1 : decode prog_88_method_7_code 1 = .ok (.bipush 32, 2) := by decide +kernel
theorem d2_3 : decode prog_88_method_7_code 3 = .ok (.lushr, 1) := by decide +kernel
theorem d2_4 : decode prog_88_method_7_code 4 = .ok (.l2i, 1) := by decide +kernel
theorem d2_5 : decode prog_88_method_7_code 5 = .ok (.ireturn, 1) := by decide +kernel
theorem ef_rm2 (m : MethodId) (x0 : Int64) : entryFrame m #[(.long x0)] 2 = mkF m 0 #[.val (.long x0), .second] [] := by first | (simp [entryFrame, mkF, argsToLocals, Value.category]; done) | rfl
def Q_rm2 (Z : State) (q1 : Int64) (h0 : Heap) (n0 : Nat) (v : Option Value) (h : Heap) (L : List Loc) : Prop := v = some (.int (own_stateOf q1)) ∧ Fr n0 L ∧ h = h0
set_option maxRecDepth 65536 in
set_option maxHeartbeats 40000000 in
theorem rm2 (l : Launch) (Z : State) (a0 : Array Value) (hw : ∀ d ∈ tables_1, d.before a0 Z = true) (ws : List Jvm.Cond) (q1 : Int64) (h0 : Heap) (n0 : Nat) (Z0 : n0 ≤ h0.size) :
    MetFree l (⟨"com/example/utopia/utopia/mdp/Strategy", "stateOf", "(J)I"⟩ : MethodName) (head1 (Jvm.Cond.code (⟨"com/example/utopia/utopia/mdp/Strategy", "stateOf", "(J)I"⟩ : MethodName) prog_88_method_7_code 2 (some .int) :: ws) ({ frames := 0, cells := 0, slots := 0, locals := 0 } : Room)) (fun a U => a = #[(.long q1)] ∧ Z.Warmed39 U.vm ∧ U.heap = h0) (fun _ _ _ _ _ => True) (fun _ U o U' => ∃ v L, o = .returned v ∧ Q_rm2 Z q1 h0 n0 v U'.heap L ∧ FrameEnd U o U' L ({ frames := 0, cells := 0, slots := 0, locals := 0 } : Room).cells ({ frames := 0, cells := 0, slots := 0, locals := 0 } : Room).slots) := by
  refine MetFree.of_bodySF (plainFor_of_name pn_c0) hisR ?_
  intro p e s m args below meth c s₁ Bd hml0 hP hK
  obtain ⟨rfl, hZ, hh⟩ := hP
  have hx := Bd.exec
  have hby := Bd.bytes
  have hml : c.maxLocals = 2 := hml0
  have hown : s.vm.findClass "com/example/utopia/utopia/mdp/Strategy" = some m.cls := findClass_of_methodNamed Bd.named
  have hnm := (name_of_methodNamed Bd.named Bd.method).1
  have X0 : Stand p l e ({ frames := 0, cells := 0, slots := 0, locals := 0 } : Room) s m #[(.long q1)] below meth c s₁ [] 0 0 := Stand.of_body Bd
  have e0 : s₁.heap = h0 := by rw [← hh, Bd.state]; rfl
  have N0 := Fr.nil n0
  have pre0 : ∀ t, Steps p.tables e below (s₁.setTop (mkF m 0 #[.val (.long q1), .second] [])) t → Steps p.tables e below (s₁.setTop (entryFrame m #[(.long q1)] 2)) t := fun t k => castTop (ef_rm2 m q1) k
  have k6 : ∀ t, Steps p.tables e below (s₁.setTop (mkF m 5 #[.val (.long q1), .second] [(.int (((q1.toUInt64 >>> ((32 : Int32) &&& 0x3f).toInt64.toUInt64).toInt64).toInt32))])) t → Steps p.tables e below (s₁.setTop (entryFrame m #[(.long q1)] 2)) t := fun t kt => pre0 t (by
      show Steps p.tables e below (s₁.setTop (mkF m 0 #[.val (.long q1), .second] [])) _
      refine XS.lloadN X0.here hx rfl (hb hby d2_0) rfl ?_
      show Steps p.tables e below (s₁.setTop (mkF m 1 #[.val (.long q1), .second] [(.long q1)])) _
      refine XS.bipush X0.here hx rfl (hb hby d2_1) ?_
      show Steps p.tables e below (s₁.setTop (mkF m 3 #[.val (.long q1), .second] [(.int (32 : Int32)), (.long q1)])) _
      refine XS.lushr X0.here hx rfl (hb hby d2_3) rfl ?_
      show Steps p.tables e below (s₁.setTop (mkF m 4 #[.val (.long q1), .second] [(.long ((q1.toUInt64 >>> ((32 : Int32) &&& 0x3f).toInt64.toUInt64).toInt64))])) _
      refine XS.l2i X0.here hx rfl (hb hby d2_4) rfl ?_
      exact kt)
  obtain ⟨fs, hr, hrun, hended, hW, hsame⟩ := X0.leave (v := some (.int (((q1.toUInt64 >>> ((32 : Int32) &&& 0x3f).toInt64.toUInt64).toInt64).toInt32))) (fun h => by rw [Bd.returns] at h; cases h)
  refine ⟨_, _, k6 _ ?_, hrun, hended, _, _, rfl, ?_, ⟨_, rfl⟩, hW, hsame.mono (by decide) (by decide)⟩
  · show Steps p.tables e below (s₁.setTop (mkF m 5 #[.val (.long q1), .second] [(.int (((q1.toUInt64 >>> ((32 : Int32) &&& 0x3f).toInt64.toUInt64).toInt64).toInt32))])) _
    exact retI X0 hx Bd.returns (hb hby d2_5) hr
  · show Q_rm2 Z q1 h0 n0 _ s₁.heap _
    rw [e0]
    exact ⟨rfl, N0, rfl⟩
theorem d3_0 : decode prog_88_method_8_code 0 = .ok (.lload_n 0, 1) := by decide +kernel
theorem d3_1 : decode prog_88_method_8_code 1 = .ok (.ldc2_w 83, 3) := by decide +kernel
theorem d3_4 : decode prog_88_method_8_code 4 = .ok (.land, 1) := by decide +kernel
theorem d3_5 : decode prog_88_method_8_code 5 = .ok (.l2i, 1) := by decide +kernel
theorem d3_6 : decode prog_88_method_8_code 6 = .ok (.ireturn, 1) := by decide +kernel
theorem ef_rm3 (m : MethodId) (x0 : Int64) : entryFrame m #[(.long x0)] 2 = mkF m 0 #[.val (.long x0), .second] [] := by first | (simp [entryFrame, mkF, argsToLocals, Value.category]; done) | rfl
def Q_rm3 (Z : State) (q1 : Int64) (h0 : Heap) (n0 : Nat) (v : Option Value) (h : Heap) (L : List Loc) : Prop := v = some (.int (own_reachedOf q1)) ∧ Fr n0 L ∧ h = h0
set_option maxRecDepth 65536 in
set_option maxHeartbeats 40000000 in
theorem rm3 (l : Launch) (Z : State) (a0 : Array Value) (hw : ∀ d ∈ tables_1, d.before a0 Z = true) (ws : List Jvm.Cond) (q1 : Int64) (h0 : Heap) (n0 : Nat) (Z0 : n0 ≤ h0.size) :
    MetFree l (⟨"com/example/utopia/utopia/mdp/Strategy", "reachedOf", "(J)I"⟩ : MethodName) (head1 (Jvm.Cond.code (⟨"com/example/utopia/utopia/mdp/Strategy", "reachedOf", "(J)I"⟩ : MethodName) prog_88_method_8_code 2 (some .int) :: ws) ({ frames := 0, cells := 0, slots := 0, locals := 0 } : Room)) (fun a U => a = #[(.long q1)] ∧ Z.Warmed39 U.vm ∧ U.heap = h0) (fun _ _ _ _ _ => True) (fun _ U o U' => ∃ v L, o = .returned v ∧ Q_rm3 Z q1 h0 n0 v U'.heap L ∧ FrameEnd U o U' L ({ frames := 0, cells := 0, slots := 0, locals := 0 } : Room).cells ({ frames := 0, cells := 0, slots := 0, locals := 0 } : Room).slots) := by
  refine MetFree.of_bodySF (plainFor_of_name pn_c0) hisR ?_
  intro p e s m args below meth c s₁ Bd hml0 hP hK
  obtain ⟨rfl, hZ, hh⟩ := hP
  have hx := Bd.exec
  have hby := Bd.bytes
  have hml : c.maxLocals = 2 := hml0
  have hown : s.vm.findClass "com/example/utopia/utopia/mdp/Strategy" = some m.cls := findClass_of_methodNamed Bd.named
  have hnm := (name_of_methodNamed Bd.named Bd.method).1
  have X0 : Stand p l e ({ frames := 0, cells := 0, slots := 0, locals := 0 } : Room) s m #[(.long q1)] below meth c s₁ [] 0 0 := Stand.of_body Bd
  have e0 : s₁.heap = h0 := by rw [← hh, Bd.state]; rfl
  have N0 := Fr.nil n0
  have pre0 : ∀ t, Steps p.tables e below (s₁.setTop (mkF m 0 #[.val (.long q1), .second] [])) t → Steps p.tables e below (s₁.setTop (entryFrame m #[(.long q1)] 2)) t := fun t k => castTop (ef_rm3 m q1) k
  have k7 : ∀ t, Steps p.tables e below (s₁.setTop (mkF m 6 #[.val (.long q1), .second] [(.int ((q1 &&& (2147483647 : Int64)).toInt32))])) t → Steps p.tables e below (s₁.setTop (entryFrame m #[(.long q1)] 2)) t := fun t kt => pre0 t (by
      show Steps p.tables e below (s₁.setTop (mkF m 0 #[.val (.long q1), .second] [])) _
      refine XS.lloadN X0.here hx rfl (hb hby d3_0) rfl ?_
      show Steps p.tables e below (s₁.setTop (mkF m 1 #[.val (.long q1), .second] [(.long q1)])) _
      refine X0.ldc2Long hx hown (mvT hZ (hw _ (List.mem_of_getElem? (i := 11) rfl))) (g := (mkF m 1 #[.val (.long q1), .second] [(.long q1)])) rfl (hb hby d3_1) _ ?_
      show Steps p.tables e below (s₁.setTop (mkF m 4 #[.val (.long q1), .second] [(.long (2147483647 : Int64)), (.long q1)])) _
      refine XS.land X0.here hx rfl (hb hby d3_4) rfl ?_
      show Steps p.tables e below (s₁.setTop (mkF m 5 #[.val (.long q1), .second] [(.long (q1 &&& (2147483647 : Int64)))])) _
      refine XS.l2i X0.here hx rfl (hb hby d3_5) rfl ?_
      exact kt)
  obtain ⟨fs, hr, hrun, hended, hW, hsame⟩ := X0.leave (v := some (.int ((q1 &&& (2147483647 : Int64)).toInt32))) (fun h => by rw [Bd.returns] at h; cases h)
  refine ⟨_, _, k7 _ ?_, hrun, hended, _, _, rfl, ?_, ⟨_, rfl⟩, hW, hsame.mono (by decide) (by decide)⟩
  · show Steps p.tables e below (s₁.setTop (mkF m 6 #[.val (.long q1), .second] [(.int ((q1 &&& (2147483647 : Int64)).toInt32))])) _
    exact retI X0 hx Bd.returns (hb hby d3_6) hr
  · show Q_rm3 Z q1 h0 n0 _ s₁.heap _
    rw [e0]
    exact ⟨rfl, N0, rfl⟩
theorem d4_0 : decode prog_88_method_9_code 0 = .ok (.lload_n 0, 1) := by decide +kernel
theorem d4_1 : decode prog_88_method_9_code 1 = .ok (.ldc2_w 95, 3) := by decide +kernel
theorem d4_4 : decode prog_88_method_9_code 4 = .ok (.land, 1) := by decide +kernel
theorem d4_5 : decode prog_88_method_9_code 5 = .ok (.lconst 0, 1) := by decide +kernel
theorem d4_6 : decode prog_88_method_9_code 6 = .ok (.lcmp, 1) := by decide +kernel
theorem d4_7 : decode prog_88_method_9_code 7 = .ok (.ifCond .eq 7, 3) := by decide +kernel
theorem d4_14 : decode prog_88_method_9_code 14 = .ok (.iconst 0, 1) := by decide +kernel
theorem d4_15 : decode prog_88_method_9_code 15 = .ok (.ireturn, 1) := by decide +kernel
theorem d4_10 : decode prog_88_method_9_code 10 = .ok (.iconst 1, 1) := by decide +kernel
theorem d4_11 : decode prog_88_method_9_code 11 = .ok (.goto 4, 3) := by decide +kernel
theorem ef_rm4 (m : MethodId) (x0 : Int64) : entryFrame m #[(.long x0)] 2 = mkF m 0 #[.val (.long x0), .second] [] := by first | (simp [entryFrame, mkF, argsToLocals, Value.category]; done) | rfl
def Q_rm4 (Z : State) (q1 : Int64) (h0 : Heap) (n0 : Nat) (v : Option Value) (h : Heap) (L : List Loc) : Prop := v = some (.int (own_settledOf q1)) ∧ Fr n0 L ∧ h = h0
set_option maxRecDepth 65536 in
set_option maxHeartbeats 40000000 in
theorem rm4 (l : Launch) (Z : State) (a0 : Array Value) (hw : ∀ d ∈ tables_1, d.before a0 Z = true) (ws : List Jvm.Cond) (q1 : Int64) (h0 : Heap) (n0 : Nat) (Z0 : n0 ≤ h0.size) :
    MetFree l (⟨"com/example/utopia/utopia/mdp/Strategy", "settledOf", "(J)Z"⟩ : MethodName) (head1 (Jvm.Cond.code (⟨"com/example/utopia/utopia/mdp/Strategy", "settledOf", "(J)Z"⟩ : MethodName) prog_88_method_9_code 2 (some .boolean) :: ws) ({ frames := 0, cells := 0, slots := 0, locals := 0 } : Room)) (fun a U => a = #[(.long q1)] ∧ Z.Warmed39 U.vm ∧ U.heap = h0) (fun _ _ _ _ _ => True) (fun _ U o U' => ∃ v L, o = .returned v ∧ Q_rm4 Z q1 h0 n0 v U'.heap L ∧ FrameEnd U o U' L ({ frames := 0, cells := 0, slots := 0, locals := 0 } : Room).cells ({ frames := 0, cells := 0, slots := 0, locals := 0 } : Room).slots) := by
  refine MetFree.of_bodySF (plainFor_of_name pn_c0) hisR ?_
  intro p e s m args below meth c s₁ Bd hml0 hP hK
  obtain ⟨rfl, hZ, hh⟩ := hP
  have hx := Bd.exec
  have hby := Bd.bytes
  have hml : c.maxLocals = 2 := hml0
  have hown : s.vm.findClass "com/example/utopia/utopia/mdp/Strategy" = some m.cls := findClass_of_methodNamed Bd.named
  have hnm := (name_of_methodNamed Bd.named Bd.method).1
  have X0 : Stand p l e ({ frames := 0, cells := 0, slots := 0, locals := 0 } : Room) s m #[(.long q1)] below meth c s₁ [] 0 0 := Stand.of_body Bd
  have e0 : s₁.heap = h0 := by rw [← hh, Bd.state]; rfl
  have N0 := Fr.nil n0
  have pre0 : ∀ t, Steps p.tables e below (s₁.setTop (mkF m 0 #[.val (.long q1), .second] [])) t → Steps p.tables e below (s₁.setTop (entryFrame m #[(.long q1)] 2)) t := fun t k => castTop (ef_rm4 m q1) k
  have k8 : ∀ t, Steps p.tables e below (s₁.setTop (mkF m 7 #[.val (.long q1), .second] [(.int (lcmpW (q1 &&& (2147483648 : Int64)) (0 : Int64)))])) t → Steps p.tables e below (s₁.setTop (entryFrame m #[(.long q1)] 2)) t := fun t kt => pre0 t (by
      show Steps p.tables e below (s₁.setTop (mkF m 0 #[.val (.long q1), .second] [])) _
      refine XS.lloadN X0.here hx rfl (hb hby d4_0) rfl ?_
      show Steps p.tables e below (s₁.setTop (mkF m 1 #[.val (.long q1), .second] [(.long q1)])) _
      refine X0.ldc2Long hx hown (mvT hZ (hw _ (List.mem_of_getElem? (i := 15) rfl))) (g := (mkF m 1 #[.val (.long q1), .second] [(.long q1)])) rfl (hb hby d4_1) _ ?_
      show Steps p.tables e below (s₁.setTop (mkF m 4 #[.val (.long q1), .second] [(.long (2147483648 : Int64)), (.long q1)])) _
      refine XS.land X0.here hx rfl (hb hby d4_4) rfl ?_
      show Steps p.tables e below (s₁.setTop (mkF m 5 #[.val (.long q1), .second] [(.long (q1 &&& (2147483648 : Int64)))])) _
      refine XS.lconst X0.here hx rfl (hb hby d4_5) ?_
      show Steps p.tables e below (s₁.setTop (mkF m 6 #[.val (.long q1), .second] [(.long (0 : Int64)), (.long (q1 &&& (2147483648 : Int64)))])) _
      refine XS.lcmp X0.here hx rfl (hb hby d4_6) rfl ?_
      exact kt)
  by_cases hc7_9 : (lcmpW (q1 &&& (2147483648 : Int64)) (0 : Int64)) = (0 : Int32)
  · have k10 : ∀ t, Steps p.tables e below (s₁.setTop (mkF m 15 #[.val (.long q1), .second] [(.int (0 : Int32))])) t → Steps p.tables e below (s₁.setTop (entryFrame m #[(.long q1)] 2)) t := fun t kt => k8 t (by
        show Steps p.tables e below (s₁.setTop (mkF m 7 #[.val (.long q1), .second] [(.int (lcmpW (q1 &&& (2147483648 : Int64)) (0 : Int64)))])) _
        refine XS.ifYes X0.here hx rfl (pc0 := 7) (pc' := 14) rfl (hb hby d4_7) rfl ((if0 _ _).trans (teq hc7_9).1) (by decide) (by decide) ?_
        show Steps p.tables e below (s₁.setTop (mkF m 14 #[.val (.long q1), .second] [])) _
        refine XS.iconst X0.here hx rfl (hb hby d4_14) ?_
        exact kt)
    obtain ⟨fs, hr, hrun, hended, hW, hsame⟩ := X0.leave (v := some (.int (0 : Int32))) (fun h => by rw [Bd.returns] at h; cases h)
    refine ⟨_, _, k10 _ ?_, hrun, hended, _, _, rfl, ?_, ⟨_, rfl⟩, hW, hsame.mono (by decide) (by decide)⟩
    · show Steps p.tables e below (s₁.setTop (mkF m 15 #[.val (.long q1), .second] [(.int (0 : Int32))])) _
      exact retN X0 hx (t := .boolean) Bd.returns (by simp) (hb hby d4_15) hr
    · show Q_rm4 Z q1 h0 n0 _ s₁.heap _
      rw [e0]
      exact ⟨by simp [own_settledOf, *], N0, rfl⟩
  · have k11 : ∀ t, Steps p.tables e below (s₁.setTop (mkF m 15 #[.val (.long q1), .second] [(.int (1 : Int32))])) t → Steps p.tables e below (s₁.setTop (entryFrame m #[(.long q1)] 2)) t := fun t kt => k8 t (by
        show Steps p.tables e below (s₁.setTop (mkF m 7 #[.val (.long q1), .second] [(.int (lcmpW (q1 &&& (2147483648 : Int64)) (0 : Int64)))])) _
        refine XS.ifNo X0.here hx rfl (hb hby d4_7) rfl ((if0 _ _).trans (feq hc7_9).1) ?_
        show Steps p.tables e below (s₁.setTop (mkF m 10 #[.val (.long q1), .second] [])) _
        refine XS.iconst X0.here hx rfl (hb hby d4_10) ?_
        show Steps p.tables e below (s₁.setTop (mkF m 11 #[.val (.long q1), .second] [(.int (1 : Int32))])) _
        refine XS.goto X0.here hx rfl (pc0 := 11) (pc' := 15) rfl (hb hby d4_11) (by decide) (by decide) ?_
        exact kt)
    obtain ⟨fs, hr, hrun, hended, hW, hsame⟩ := X0.leave (v := some (.int (1 : Int32))) (fun h => by rw [Bd.returns] at h; cases h)
    refine ⟨_, _, k11 _ ?_, hrun, hended, _, _, rfl, ?_, ⟨_, rfl⟩, hW, hsame.mono (by decide) (by decide)⟩
    · show Steps p.tables e below (s₁.setTop (mkF m 15 #[.val (.long q1), .second] [(.int (1 : Int32))])) _
      exact retN X0 hx (t := .boolean) Bd.returns (by simp) (hb hby d4_15) hr
    · show Q_rm4 Z q1 h0 n0 _ s₁.heap _
      rw [e0]
      exact ⟨by simp [own_settledOf, *], N0, rfl⟩
theorem pd_0 : parseMethodDescriptor "(IIZ)J" = some ⟨[.int, .int, .boolean], some .long⟩ := by decide +kernel
theorem pd_1 : parseMethodDescriptor "(J)I" = some ⟨[.long], some .int⟩ := by decide +kernel
theorem pd_2 : parseMethodDescriptor "(J)Z" = some ⟨[.long], some .boolean⟩ := by decide +kernel
theorem pn_c1 : plainName "com/example/utopia/utopia/mdp/StrategyKeyPinLaw" = true := by first | (simp [plainName, overriddenIn]; done) | decide +kernel
theorem ef_rm0 (m : MethodId) (x0 : Int32) (x1 : Int32) (x2 : Int32) : entryFrame m #[(.int x0), (.int x1), (.int x2)] maxLocals = mkF m 0 #[.val (.int x0), .val (.int x1), .val (.int x2), .unset, .unset, .unset, .unset, .unset, .unset, .unset] [] := by first | (simp [entryFrame, mkF, argsToLocals, Value.category, maxLocals]; done) | rfl
def Q_rm0 (Z : State) (p1 p2 p3 : Int32) (h0 : Heap) (n0 : Nat) (v : Option Value) (h : Heap) (L : List Loc) : Prop := v = some (.int 1) ∧ Fr n0 L
set_option maxRecDepth 65536 in
set_option maxHeartbeats 40000000 in
theorem rm0 (l : Launch) (Z : State) (a0 : Array Value) (hw : ∀ d ∈ tables_1, d.before a0 Z = true) (ws : List Jvm.Cond) (p1 p2 p3 : Int32) (h0 : Heap) (n0 : Nat) (Z0 : n0 ≤ h0.size) :
    MetFree l x (head1 (Jvm.Cond.code x code maxLocals ret :: ws) room_1) (fun a U => a = #[(.int p1), (.int p2), (.int p3)] ∧ Z.Warmed39 U.vm ∧ U.heap = h0) (fun _ _ _ _ _ => True) (fun _ U o U' => ∃ v L, o = .returned v ∧ Q_rm0 Z p1 p2 p3 h0 n0 v U'.heap L ∧ FrameEnd U o U' L room_1.cells room_1.slots) := by
  refine MetFree.of_bodySF (plainFor_of_name pn_c1) hisR ?_
  intro p e s m args below meth c s₁ Bd hml0 hP hK
  obtain ⟨rfl, hZ, hh⟩ := hP
  have hx := Bd.exec
  have hby := Bd.bytes
  have hml : c.maxLocals = 10 := hml0
  have hown : s.vm.findClass "com/example/utopia/utopia/mdp/StrategyKeyPinLaw" = some m.cls := findClass_of_methodNamed Bd.named
  have hnm := (name_of_methodNamed Bd.named Bd.method).1
  have X0 : Stand p l e room_1 s m #[(.int p1), (.int p2), (.int p3)] below meth c s₁ [] 0 0 := Stand.of_body Bd
  have e0 : s₁.heap = h0 := by rw [← hh, Bd.state]; rfl
  have N0 := Fr.nil n0
  have pre0 : ∀ t, Steps p.tables e below (s₁.setTop (mkF m 0 #[.val (.int p1), .val (.int p2), .val (.int p3), .unset, .unset, .unset, .unset, .unset, .unset, .unset] [])) t → Steps p.tables e below (s₁.setTop (entryFrame m #[(.int p1), (.int p2), (.int p3)] maxLocals)) t := fun t k => castTop (ef_rm0 m p1 p2 p3) k
  have k12 : ∀ t, Steps p.tables e below (s₁.setTop (mkF m 8 #[.val (.int p1), .val (.int p2), .val (.int p3), .val (.int (p2 &&& (2147483647 : Int32))), .unset, .unset, .unset, .unset, .unset, .unset] [(.int (p3 &&& (1 : Int32)))])) t → Steps p.tables e below (s₁.setTop (entryFrame m #[(.int p1), (.int p2), (.int p3)] maxLocals)) t := fun t kt => pre0 t (by
      let A0 : Array Slot := #[.val (.int p1), .val (.int p2), .val (.int p3), .unset, .unset, .unset, .unset, .unset, .unset, .unset]
      show Steps p.tables e below (s₁.setTop (mkF m 0 A0 [])) _
      refine XS.iloadN X0.here hx rfl (hb hby at_0) rfl ?_
      show Steps p.tables e below (s₁.setTop (mkF m 1 A0 [(.int p2)])) _
      refine X0.ldcInt hx hown (mvT hZ (hw _ (List.mem_of_getElem? (i := 0) rfl))) (g := (mkF m 1 A0 [(.int p2)])) rfl (hb hby at_1) _ ?_
      show Steps p.tables e below (s₁.setTop (mkF m 3 A0 [(.int (2147483647 : Int32)), (.int p2)])) _
      refine XS.iand X0.here hx rfl (hb hby at_3) rfl ?_
      show Steps p.tables e below (s₁.setTop (mkF m 4 A0 [(.int (p2 &&& (2147483647 : Int32)))])) _
      let A1 : Array Slot := #[.val (.int p1), .val (.int p2), .val (.int p3), .val (.int (p2 &&& (2147483647 : Int32))), .unset, .unset, .unset, .unset, .unset, .unset]
      refine XS.istoreN X0.here hx rfl (hb hby at_4) rfl (l' := A1) rfl ?_
      show Steps p.tables e below (s₁.setTop (mkF m 5 A1 [])) _
      refine XS.iloadN X0.here hx rfl (hb hby at_5) rfl ?_
      show Steps p.tables e below (s₁.setTop (mkF m 6 A1 [(.int p3)])) _
      refine XS.iconst X0.here hx rfl (hb hby at_6) ?_
      show Steps p.tables e below (s₁.setTop (mkF m 7 A1 [(.int (1 : Int32)), (.int p3)])) _
      refine XS.iand X0.here hx rfl (hb hby at_7) rfl ?_
      exact kt)
  obtain ⟨v14, hv14⟩ : ∃ v : Int32, v = (if (p3 &&& (1 : Int32)) = (0 : Int32) then (0 : Int32) else (1 : Int32)) := ⟨_, rfl⟩
  have k15 : ∀ t, Steps p.tables e below (s₁.setTop (mkF m 16 #[.val (.int p1), .val (.int p2), .val (.int p3), .val (.int (p2 &&& (2147483647 : Int32))), .unset, .unset, .unset, .unset, .unset, .unset] [(.int v14)])) t → Steps p.tables e below (s₁.setTop (entryFrame m #[(.int p1), (.int p2), (.int p3)] maxLocals)) t := by
    intro t kt
    by_cases hc8_13 : (p3 &&& (1 : Int32)) = (0 : Int32)
    · rw [show v14 = (0 : Int32) from (hv14.trans (if_pos hc8_13))] at kt
      exact k12 t (by
          let A0 : Array Slot := #[.val (.int p1), .val (.int p2), .val (.int p3), .val (.int (p2 &&& (2147483647 : Int32))), .unset, .unset, .unset, .unset, .unset, .unset]
          show Steps p.tables e below (s₁.setTop (mkF m 8 A0 [(.int (p3 &&& (1 : Int32)))])) _
          refine XS.ifYes X0.here hx rfl (pc0 := 8) (pc' := 15) rfl (hb hby at_8) rfl ((if0 _ _).trans (teq hc8_13).1) (by decide) (by decide) ?_
          show Steps p.tables e below (s₁.setTop (mkF m 15 A0 [])) _
          refine XS.iconst X0.here hx rfl (hb hby at_15) ?_
          exact kt)
    · rw [show v14 = (1 : Int32) from (hv14.trans (if_neg hc8_13))] at kt
      exact k12 t (by
          let A0 : Array Slot := #[.val (.int p1), .val (.int p2), .val (.int p3), .val (.int (p2 &&& (2147483647 : Int32))), .unset, .unset, .unset, .unset, .unset, .unset]
          show Steps p.tables e below (s₁.setTop (mkF m 8 A0 [(.int (p3 &&& (1 : Int32)))])) _
          refine XS.ifNo X0.here hx rfl (hb hby at_8) rfl ((if0 _ _).trans (feq hc8_13).1) ?_
          show Steps p.tables e below (s₁.setTop (mkF m 11 A0 [])) _
          refine XS.iconst X0.here hx rfl (hb hby at_11) ?_
          show Steps p.tables e below (s₁.setTop (mkF m 12 A0 [(.int (1 : Int32))])) _
          refine XS.goto X0.here hx rfl (pc0 := 12) (pc' := 16) rfl (hb hby at_12) (by decide) (by decide) ?_
          exact kt)
  have hb01 : v14 = 0 ∨ v14 = 1 := by rw [hv14]; split <;> simp
  obtain ⟨_, _, ⟨T16, L16, k16, n16⟩, -, X16, ⟨Lc16, hQ16, l16, y16, z16⟩, st16⟩ := Jvm.LawKit.callS X0 hx (y := (⟨"com/example/utopia/utopia/mdp/Strategy", "key", "(IIZ)J"⟩ : MethodName)) hown (mvT hZ (hw _ (List.mem_of_getElem? (i := 1) rfl))) (mvT hZ (hw _ (List.mem_of_getElem? (i := 2) rfl))) (mvT hZ (hw _ (List.mem_of_getElem? (i := 3) rfl))) (mvT hZ (hw _ (List.mem_of_getElem? (i := 4) rfl))) (by decide) (backOf (W := 0) (rm1 l Z a0 hw [] p1 (p2 &&& (2147483647 : Int32)) v14 h0 n0 Z0) hZ (hw _ (List.mem_of_getElem? (i := 4) rfl)) (hw _ (List.mem_of_getElem? (i := 3) rfl)) (by decide) (by decide)) (g := (mkF m 22 #[.val (.int p1), .val (.int p2), .val (.int p3), .val (.int (p2 &&& (2147483647 : Int32))), .val (.int v14), .unset, .unset, .unset, .unset, .unset] [(.int v14), (.int (p2 &&& (2147483647 : Int32))), (.int p1)])) rfl (by rw [hml]; rfl) (argsL := [(.int p1), (.int (p2 &&& (2147483647 : Int32))), (.int v14)]) (rest := []) (lenOf pd_0 rfl) rfl (by show 2 * 0 + _ ≤ _; exact Nat.le_of_eq rfl) (hb hby at_22) (fun _ _ => ⟨rfl, e0, (by decide : 0 + 0 ≤ _), (by decide : 0 + 0 ≤ _)⟩)
  dsimp only [Pt.U, Pt.locs, Pt.cells, Pt.slots] at X16 l16 y16 z16 st16 hQ16
  subst l16 y16 z16
  obtain ⟨rfl, N16q, e16⟩ := hQ16
  have N16 := Fr.app N0 N16q
  obtain ⟨_, _, ⟨T17, L17, k17, n17⟩, -, X17, ⟨Lc17, hQ17, l17, y17, z17⟩, st17⟩ := Jvm.LawKit.callS X16 hx (y := (⟨"com/example/utopia/utopia/mdp/Strategy", "stateOf", "(J)I"⟩ : MethodName)) hown (mvT hZ (hw _ (List.mem_of_getElem? (i := 5) rfl))) (mvT hZ (hw _ (List.mem_of_getElem? (i := 6) rfl))) (mvT hZ (hw _ (List.mem_of_getElem? (i := 3) rfl))) (mvT hZ (hw _ (List.mem_of_getElem? (i := 7) rfl))) (by decide) (backOf (W := 0) (rm2 l Z a0 hw [] (own_key p1 (p2 &&& (2147483647 : Int32)) v14) h0 n0 Z0) hZ (hw _ (List.mem_of_getElem? (i := 7) rfl)) (hw _ (List.mem_of_getElem? (i := 3) rfl)) (by decide) (by decide)) (g := (mkF m 29 #[.val (.int p1), .val (.int p2), .val (.int p3), .val (.int (p2 &&& (2147483647 : Int32))), .val (.int v14), .val (.long (own_key p1 (p2 &&& (2147483647 : Int32)) v14)), .second, .unset, .unset, .unset] [(.long (own_key p1 (p2 &&& (2147483647 : Int32)) v14))])) rfl (by rw [hml]; rfl) (argsL := [(.long (own_key p1 (p2 &&& (2147483647 : Int32)) v14))]) (rest := []) (lenOf pd_1 rfl) rfl (by show 2 * 0 + _ ≤ _; exact Nat.le_of_eq rfl) (hb hby at_29) (fun _ _ => ⟨rfl, e16, (by decide : 0 + 0 ≤ _), (by decide : 0 + 0 ≤ _)⟩)
  dsimp only [Pt.U, Pt.locs, Pt.cells, Pt.slots] at X17 l17 y17 z17 st17 hQ17
  subst l17 y17 z17
  obtain ⟨rfl, N17q, e17⟩ := hQ17
  have N17 := Fr.app N16 N17q
  obtain ⟨_, _, ⟨T18, L18, k18, n18⟩, -, X18, ⟨Lc18, hQ18, l18, y18, z18⟩, st18⟩ := Jvm.LawKit.callS X17 hx (y := (⟨"com/example/utopia/utopia/mdp/Strategy", "reachedOf", "(J)I"⟩ : MethodName)) hown (mvT hZ (hw _ (List.mem_of_getElem? (i := 8) rfl))) (mvT hZ (hw _ (List.mem_of_getElem? (i := 9) rfl))) (mvT hZ (hw _ (List.mem_of_getElem? (i := 3) rfl))) (mvT hZ (hw _ (List.mem_of_getElem? (i := 10) rfl))) (by decide) (backOf (W := 0) (rm3 l Z a0 hw [] (own_key p1 (p2 &&& (2147483647 : Int32)) v14) h0 n0 Z0) hZ (hw _ (List.mem_of_getElem? (i := 10) rfl)) (hw _ (List.mem_of_getElem? (i := 3) rfl)) (by decide) (by decide)) (g := (mkF m 38 #[.val (.int p1), .val (.int p2), .val (.int p3), .val (.int (p2 &&& (2147483647 : Int32))), .val (.int v14), .val (.long (own_key p1 (p2 &&& (2147483647 : Int32)) v14)), .second, .unset, .unset, .unset] [(.long (own_key p1 (p2 &&& (2147483647 : Int32)) v14))])) rfl (by rw [hml]; rfl) (argsL := [(.long (own_key p1 (p2 &&& (2147483647 : Int32)) v14))]) (rest := []) (lenOf pd_1 rfl) rfl (by show 2 * 0 + _ ≤ _; exact Nat.le_of_eq rfl) (hb hby at_38) (fun _ _ => ⟨rfl, e17, (by decide : 0 + 0 ≤ _), (by decide : 0 + 0 ≤ _)⟩)
  dsimp only [Pt.U, Pt.locs, Pt.cells, Pt.slots] at X18 l18 y18 z18 st18 hQ18
  subst l18 y18 z18
  obtain ⟨rfl, N18q, e18⟩ := hQ18
  have N18 := Fr.app N17 N18q
  obtain ⟨_, _, ⟨T19, L19, k19, n19⟩, -, X19, ⟨Lc19, hQ19, l19, y19, z19⟩, st19⟩ := Jvm.LawKit.callS X18 hx (y := (⟨"com/example/utopia/utopia/mdp/Strategy", "settledOf", "(J)Z"⟩ : MethodName)) hown (mvT hZ (hw _ (List.mem_of_getElem? (i := 12) rfl))) (mvT hZ (hw _ (List.mem_of_getElem? (i := 13) rfl))) (mvT hZ (hw _ (List.mem_of_getElem? (i := 3) rfl))) (mvT hZ (hw _ (List.mem_of_getElem? (i := 14) rfl))) (by decide) (backOf (W := 0) (rm4 l Z a0 hw [] (own_key p1 (p2 &&& (2147483647 : Int32)) v14) h0 n0 Z0) hZ (hw _ (List.mem_of_getElem? (i := 14) rfl)) (hw _ (List.mem_of_getElem? (i := 3) rfl)) (by decide) (by decide)) (g := (mkF m 47 #[.val (.int p1), .val (.int p2), .val (.int p3), .val (.int (p2 &&& (2147483647 : Int32))), .val (.int v14), .val (.long (own_key p1 (p2 &&& (2147483647 : Int32)) v14)), .second, .unset, .unset, .unset] [(.long (own_key p1 (p2 &&& (2147483647 : Int32)) v14))])) rfl (by rw [hml]; rfl) (argsL := [(.long (own_key p1 (p2 &&& (2147483647 : Int32)) v14))]) (rest := []) (lenOf pd_2 rfl) rfl (by show 2 * 0 + _ ≤ _; exact Nat.le_of_eq rfl) (hb hby at_47) (fun _ _ => ⟨rfl, e18, (by decide : 0 + 0 ≤ _), (by decide : 0 + 0 ≤ _)⟩)
  dsimp only [Pt.U, Pt.locs, Pt.cells, Pt.slots] at X19 l19 y19 z19 st19 hQ19
  subst l19 y19 z19
  obtain ⟨rfl, N19q, e19⟩ := hQ19
  have N19 := Fr.app N18 N19q
  have k20 : ∀ t, Steps p.tables e below (T19.setTop (mkF m 70 #[.val (.int p1), .val (.int p2), .val (.int p3), .val (.int (p2 &&& (2147483647 : Int32))), .val (.int v14), .val (.long (own_key p1 (p2 &&& (2147483647 : Int32)) v14)), .second, .val (.int (1 : Int32)), .unset, .unset] [(.int v14), (.long ((p1.toInt64) * (4294967296 : Int64)))])) t → Steps p.tables e below (s₁.setTop (entryFrame m #[(.int p1), (.int p2), (.int p3)] maxLocals)) t := fun t kt => k15 t (by
      show Steps p.tables e below (s₁.setTop (mkF m 16 #[.val (.int p1), .val (.int p2), .val (.int p3), .val (.int (p2 &&& (2147483647 : Int32))), .unset, .unset, .unset, .unset, .unset, .unset] [(.int v14)])) _
      let A0 : Array Slot := #[.val (.int p1), .val (.int p2), .val (.int p3), .val (.int (p2 &&& (2147483647 : Int32))), .val (.int v14), .unset, .unset, .unset, .unset, .unset]
      refine XS.istore X0.here hx rfl (hb hby at_16) rfl (l' := A0) rfl ?_
      show Steps p.tables e below (s₁.setTop (mkF m 18 A0 [])) _
      refine XS.iloadN X0.here hx rfl (hb hby at_18) rfl ?_
      show Steps p.tables e below (s₁.setTop (mkF m 19 A0 [(.int p1)])) _
      refine XS.iloadN X0.here hx rfl (hb hby at_19) rfl ?_
      show Steps p.tables e below (s₁.setTop (mkF m 20 A0 [(.int (p2 &&& (2147483647 : Int32))), (.int p1)])) _
      refine XS.iload X0.here hx rfl (hb hby at_20) rfl ?_
      show Steps p.tables e below (s₁.setTop (mkF m 22 A0 [(.int v14), (.int (p2 &&& (2147483647 : Int32))), (.int p1)])) _
      refine st16 _ ?_
      show Steps p.tables e below (T16.setTop (mkF m 25 A0 [(.long (own_key p1 (p2 &&& (2147483647 : Int32)) v14))])) _
      let A1 : Array Slot := #[.val (.int p1), .val (.int p2), .val (.int p3), .val (.int (p2 &&& (2147483647 : Int32))), .val (.int v14), .val (.long (own_key p1 (p2 &&& (2147483647 : Int32)) v14)), .second, .unset, .unset, .unset]
      refine XS.lstore X16.here hx rfl (hb hby at_25) rfl (l' := A1) rfl ?_
      show Steps p.tables e below (T16.setTop (mkF m 27 A1 [])) _
      refine XS.lload X16.here hx rfl (hb hby at_27) rfl ?_
      show Steps p.tables e below (T16.setTop (mkF m 29 A1 [(.long (own_key p1 (p2 &&& (2147483647 : Int32)) v14))])) _
      refine st17 _ ?_
      show Steps p.tables e below (T17.setTop (mkF m 32 A1 [(.int (own_stateOf (own_key p1 (p2 &&& (2147483647 : Int32)) v14)))])) _
      refine XS.iloadN X17.here hx rfl (hb hby at_32) rfl ?_
      show Steps p.tables e below (T17.setTop (mkF m 33 A1 [(.int p1), (.int (own_stateOf (own_key p1 (p2 &&& (2147483647 : Int32)) v14)))])) _
      refine XS.icmpNo X17.here hx rfl (hb hby at_33) rfl (teq (own_state p1 p2 v14)).2 ?_
      show Steps p.tables e below (T17.setTop (mkF m 36 A1 [])) _
      refine XS.lload X17.here hx rfl (hb hby at_36) rfl ?_
      show Steps p.tables e below (T17.setTop (mkF m 38 A1 [(.long (own_key p1 (p2 &&& (2147483647 : Int32)) v14))])) _
      refine st18 _ ?_
      show Steps p.tables e below (T18.setTop (mkF m 41 A1 [(.int (own_reachedOf (own_key p1 (p2 &&& (2147483647 : Int32)) v14)))])) _
      refine XS.iloadN X18.here hx rfl (hb hby at_41) rfl ?_
      show Steps p.tables e below (T18.setTop (mkF m 42 A1 [(.int (p2 &&& (2147483647 : Int32))), (.int (own_reachedOf (own_key p1 (p2 &&& (2147483647 : Int32)) v14)))])) _
      refine XS.icmpNo X18.here hx rfl (hb hby at_42) rfl (teq (own_reached p1 p2 v14)).2 ?_
      show Steps p.tables e below (T18.setTop (mkF m 45 A1 [])) _
      refine XS.lload X18.here hx rfl (hb hby at_45) rfl ?_
      show Steps p.tables e below (T18.setTop (mkF m 47 A1 [(.long (own_key p1 (p2 &&& (2147483647 : Int32)) v14))])) _
      refine st19 _ ?_
      show Steps p.tables e below (T19.setTop (mkF m 50 A1 [(.int (own_settledOf (own_key p1 (p2 &&& (2147483647 : Int32)) v14)))])) _
      refine XS.iload X19.here hx rfl (hb hby at_50) rfl ?_
      show Steps p.tables e below (T19.setTop (mkF m 52 A1 [(.int v14), (.int (own_settledOf (own_key p1 (p2 &&& (2147483647 : Int32)) v14)))])) _
      refine XS.icmpNo X19.here hx rfl (hb hby at_52) rfl (teq (own_settled p1 p2 v14 hb01)).2 ?_
      show Steps p.tables e below (T19.setTop (mkF m 55 A1 [])) _
      refine XS.iconst X19.here hx rfl (hb hby at_55) ?_
      show Steps p.tables e below (T19.setTop (mkF m 56 A1 [(.int (1 : Int32))])) _
      refine XS.goto X19.here hx rfl (pc0 := 56) (pc' := 60) rfl (hb hby at_56) (by decide) (by decide) ?_
      show Steps p.tables e below (T19.setTop (mkF m 60 A1 [(.int (1 : Int32))])) _
      let A2 : Array Slot := #[.val (.int p1), .val (.int p2), .val (.int p3), .val (.int (p2 &&& (2147483647 : Int32))), .val (.int v14), .val (.long (own_key p1 (p2 &&& (2147483647 : Int32)) v14)), .second, .val (.int (1 : Int32)), .unset, .unset]
      refine XS.istore X19.here hx rfl (hb hby at_60) rfl (l' := A2) rfl ?_
      show Steps p.tables e below (T19.setTop (mkF m 62 A2 [])) _
      refine XS.iloadN X19.here hx rfl (hb hby at_62) rfl ?_
      show Steps p.tables e below (T19.setTop (mkF m 63 A2 [(.int p1)])) _
      refine XS.i2l X19.here hx rfl (hb hby at_63) rfl ?_
      show Steps p.tables e below (T19.setTop (mkF m 64 A2 [(.long (p1.toInt64))])) _
      refine X19.ldc2Long hx hown (mvT hZ (hw _ (List.mem_of_getElem? (i := 16) rfl))) (g := (mkF m 64 A2 [(.long (p1.toInt64))])) rfl (hb hby at_64) _ ?_
      show Steps p.tables e below (T19.setTop (mkF m 67 A2 [(.long (4294967296 : Int64)), (.long (p1.toInt64))])) _
      refine XS.lmul X19.here hx rfl (hb hby at_67) rfl ?_
      show Steps p.tables e below (T19.setTop (mkF m 68 A2 [(.long ((p1.toInt64) * (4294967296 : Int64)))])) _
      refine XS.iload X19.here hx rfl (hb hby at_68) rfl ?_
      exact kt)
  obtain ⟨v22, hv22⟩ : ∃ v : Int64, v = (if v14 = (0 : Int32) then (0 : Int64) else (2147483648 : Int64)) := ⟨_, rfl⟩
  have k23 : ∀ t, Steps p.tables e below (T19.setTop (mkF m 80 #[.val (.int p1), .val (.int p2), .val (.int p3), .val (.int (p2 &&& (2147483647 : Int32))), .val (.int v14), .val (.long (own_key p1 (p2 &&& (2147483647 : Int32)) v14)), .second, .val (.int (1 : Int32)), .unset, .unset] [(.long v22), (.long ((p1.toInt64) * (4294967296 : Int64)))])) t → Steps p.tables e below (s₁.setTop (entryFrame m #[(.int p1), (.int p2), (.int p3)] maxLocals)) t := by
    intro t kt
    by_cases hc70_21 : v14 = (0 : Int32)
    · rw [show v22 = (0 : Int64) from (hv22.trans (if_pos hc70_21))] at kt
      exact k20 t (by
          let A0 : Array Slot := #[.val (.int p1), .val (.int p2), .val (.int p3), .val (.int (p2 &&& (2147483647 : Int32))), .val (.int v14), .val (.long (own_key p1 (p2 &&& (2147483647 : Int32)) v14)), .second, .val (.int (1 : Int32)), .unset, .unset]
          show Steps p.tables e below (T19.setTop (mkF m 70 A0 [(.int v14), (.long ((p1.toInt64) * (4294967296 : Int64)))])) _
          refine XS.ifYes X19.here hx rfl (pc0 := 70) (pc' := 79) rfl (hb hby at_70) rfl ((if0 _ _).trans (teq hc70_21).1) (by decide) (by decide) ?_
          show Steps p.tables e below (T19.setTop (mkF m 79 A0 [(.long ((p1.toInt64) * (4294967296 : Int64)))])) _
          refine XS.lconst X19.here hx rfl (hb hby at_79) ?_
          exact kt)
    · rw [show v22 = (2147483648 : Int64) from (hv22.trans (if_neg hc70_21))] at kt
      exact k20 t (by
          let A0 : Array Slot := #[.val (.int p1), .val (.int p2), .val (.int p3), .val (.int (p2 &&& (2147483647 : Int32))), .val (.int v14), .val (.long (own_key p1 (p2 &&& (2147483647 : Int32)) v14)), .second, .val (.int (1 : Int32)), .unset, .unset]
          show Steps p.tables e below (T19.setTop (mkF m 70 A0 [(.int v14), (.long ((p1.toInt64) * (4294967296 : Int64)))])) _
          refine XS.ifNo X19.here hx rfl (hb hby at_70) rfl ((if0 _ _).trans (feq hc70_21).1) ?_
          show Steps p.tables e below (T19.setTop (mkF m 73 A0 [(.long ((p1.toInt64) * (4294967296 : Int64)))])) _
          refine X19.ldc2Long hx hown (mvT hZ (hw _ (List.mem_of_getElem? (i := 17) rfl))) (g := (mkF m 73 A0 [(.long ((p1.toInt64) * (4294967296 : Int64)))])) rfl (hb hby at_73) _ ?_
          show Steps p.tables e below (T19.setTop (mkF m 76 A0 [(.long (2147483648 : Int64)), (.long ((p1.toInt64) * (4294967296 : Int64)))])) _
          refine XS.goto X19.here hx rfl (pc0 := 76) (pc' := 80) rfl (hb hby at_76) (by decide) (by decide) ?_
          exact kt)
  have hfin : lcmpW (own_key p1 (p2 &&& (2147483647 : Int32)) v14) ((((p1.toInt64) * (4294967296 : Int64)) + v22) + ((p2 &&& (2147483647 : Int32)).toInt64)) = 0 := (lw_eq _ _).mpr (by rw [hv22]; exact own_expect p1 p2 v14)
  have k24 : ∀ t, Steps p.tables e below (T19.setTop (mkF m 104 #[.val (.int p1), .val (.int p2), .val (.int p3), .val (.int (p2 &&& (2147483647 : Int32))), .val (.int v14), .val (.long (own_key p1 (p2 &&& (2147483647 : Int32)) v14)), .second, .val (.int (1 : Int32)), .val (.long ((((p1.toInt64) * (4294967296 : Int64)) + v22) + ((p2 &&& (2147483647 : Int32)).toInt64))), .second] [(.int (1 : Int32))])) t → Steps p.tables e below (s₁.setTop (entryFrame m #[(.int p1), (.int p2), (.int p3)] maxLocals)) t := fun t kt => k23 t (by
      let A0 : Array Slot := #[.val (.int p1), .val (.int p2), .val (.int p3), .val (.int (p2 &&& (2147483647 : Int32))), .val (.int v14), .val (.long (own_key p1 (p2 &&& (2147483647 : Int32)) v14)), .second, .val (.int (1 : Int32)), .unset, .unset]
      show Steps p.tables e below (T19.setTop (mkF m 80 A0 [(.long v22), (.long ((p1.toInt64) * (4294967296 : Int64)))])) _
      refine XS.ladd X19.here hx rfl (hb hby at_80) rfl ?_
      show Steps p.tables e below (T19.setTop (mkF m 81 A0 [(.long (((p1.toInt64) * (4294967296 : Int64)) + v22))])) _
      refine XS.iloadN X19.here hx rfl (hb hby at_81) rfl ?_
      show Steps p.tables e below (T19.setTop (mkF m 82 A0 [(.int (p2 &&& (2147483647 : Int32))), (.long (((p1.toInt64) * (4294967296 : Int64)) + v22))])) _
      refine XS.i2l X19.here hx rfl (hb hby at_82) rfl ?_
      show Steps p.tables e below (T19.setTop (mkF m 83 A0 [(.long ((p2 &&& (2147483647 : Int32)).toInt64)), (.long (((p1.toInt64) * (4294967296 : Int64)) + v22))])) _
      refine XS.ladd X19.here hx rfl (hb hby at_83) rfl ?_
      show Steps p.tables e below (T19.setTop (mkF m 84 A0 [(.long ((((p1.toInt64) * (4294967296 : Int64)) + v22) + ((p2 &&& (2147483647 : Int32)).toInt64)))])) _
      let A1 : Array Slot := #[.val (.int p1), .val (.int p2), .val (.int p3), .val (.int (p2 &&& (2147483647 : Int32))), .val (.int v14), .val (.long (own_key p1 (p2 &&& (2147483647 : Int32)) v14)), .second, .val (.int (1 : Int32)), .val (.long ((((p1.toInt64) * (4294967296 : Int64)) + v22) + ((p2 &&& (2147483647 : Int32)).toInt64))), .second]
      refine XS.lstore X19.here hx rfl (hb hby at_84) rfl (l' := A1) rfl ?_
      show Steps p.tables e below (T19.setTop (mkF m 86 A1 [])) _
      refine XS.iload X19.here hx rfl (hb hby at_86) rfl ?_
      show Steps p.tables e below (T19.setTop (mkF m 88 A1 [(.int (1 : Int32))])) _
      refine XS.ifNo X19.here hx rfl (hb hby at_88) rfl ((if0 _ _).trans (feq (by decide : ¬ ((1 : Int32) = (0 : Int32)))).1) ?_
      show Steps p.tables e below (T19.setTop (mkF m 91 A1 [])) _
      refine XS.lload X19.here hx rfl (hb hby at_91) rfl ?_
      show Steps p.tables e below (T19.setTop (mkF m 93 A1 [(.long (own_key p1 (p2 &&& (2147483647 : Int32)) v14))])) _
      refine XS.lload X19.here hx rfl (hb hby at_93) rfl ?_
      show Steps p.tables e below (T19.setTop (mkF m 95 A1 [(.long ((((p1.toInt64) * (4294967296 : Int64)) + v22) + ((p2 &&& (2147483647 : Int32)).toInt64))), (.long (own_key p1 (p2 &&& (2147483647 : Int32)) v14))])) _
      refine XS.lcmp X19.here hx rfl (hb hby at_95) rfl ?_
      show Steps p.tables e below (T19.setTop (mkF m 96 A1 [(.int (lcmpW (own_key p1 (p2 &&& (2147483647 : Int32)) v14) ((((p1.toInt64) * (4294967296 : Int64)) + v22) + ((p2 &&& (2147483647 : Int32)).toInt64))))])) _
      refine XS.ifNo X19.here hx rfl (hb hby at_96) rfl ((if0 _ _).trans (teq hfin).2) ?_
      show Steps p.tables e below (T19.setTop (mkF m 99 A1 [])) _
      refine XS.iconst X19.here hx rfl (hb hby at_99) ?_
      show Steps p.tables e below (T19.setTop (mkF m 100 A1 [(.int (1 : Int32))])) _
      refine XS.goto X19.here hx rfl (pc0 := 100) (pc' := 104) rfl (hb hby at_100) (by decide) (by decide) ?_
      exact kt)
  obtain ⟨fs, hr, hrun, hended, hW, hsame⟩ := X19.leave (v := some (.int (1 : Int32))) (fun h => by rw [Bd.returns] at h; cases h)
  refine ⟨_, _, k24 _ ?_, hrun, hended, _, _, rfl, ?_, ⟨_, rfl⟩, hW, hsame.mono (by decide) (by decide)⟩
  · show Steps p.tables e below (T19.setTop (mkF m 104 #[.val (.int p1), .val (.int p2), .val (.int p3), .val (.int (p2 &&& (2147483647 : Int32))), .val (.int v14), .val (.long (own_key p1 (p2 &&& (2147483647 : Int32)) v14)), .second, .val (.int (1 : Int32)), .val (.long ((((p1.toInt64) * (4294967296 : Int64)) + v22) + ((p2 &&& (2147483647 : Int32)).toInt64))), .second] [(.int (1 : Int32))])) _
    exact retN X19 hx (t := .boolean) Bd.returns (by simp) (hb hby at_104) hr
  · show Q_rm0 Z p1 p2 p3 h0 n0 _ T19.heap _
    rw [e19]
    exact ⟨rfl, N19⟩
set_option maxRecDepth 65536 in
set_option maxHeartbeats 40000000 in
theorem comes_1 {Post : Tables → Env → Array Value → State → Outcome → State → Prop} (hpost : ∀ tb e args s v u, (limb_1_1.after args s (.returned v) u = true ∧ limb_1_2.after args s (.returned v) u = true ∧ True) → FrameEnd s (.returned v) u (Jvm.fieldLocs frame_1_writes args s ++ Jvm.arrayLocs frame_1_arrays args s ++ Jvm.staticLocs frame_1_statics s) 0 0 → Post tb e args s (.returned v) u) :
    ArmFor flags0 classFile x code maxLocals ret World_1 tables_1 room_1 Calls_1 rest_1 Pre_1 Post := by
  intro l hfl _ _ p e ha hc hk s m args below hf hA hF happ hP
  obtain ⟨hcalls, hrest, hpre⟩ := hP
  obtain ⟨-, -, -, hnamed, -, -, -, hat⟩ := (Spec.applies_iff hf).mp happ
  obtain ⟨hg, hn⟩ := and_e (Cond.before_iff.mp (show (Jvm.Cond.and given_1 narrow_1).before args s = true from hpre))
  obtain ⟨hcnt, hg0⟩ := and_e hg
  obtain ⟨ha0, hg1⟩ := and_e hg0
  obtain ⟨ha1, hg2⟩ := and_e hg1
  obtain ⟨w0, w1, w2, rfl⟩ : ∃ w0 w1 w2 : Value, args = #[w0, w1, w2] := by
    have hs : args.size = 3 := by simpa [Cond.value, given_1] using hcnt
    obtain ⟨L⟩ := args
    match L, hs with
    | [w0, w1, w2], _ => exact ⟨w0, w1, w2, rfl⟩
  have hw := fun d (hd : d ∈ tables_1) => atoms_spec (ws := Jvm.Cond.code x code maxLocals ret :: tables_1) hat d (List.mem_cons_of_mem _ hd)
  have hfit : Fit s := fun {y c} hc i hi => by
    obtain ⟨ha, rfl⟩ := Array.getElem?_eq_some_iff.mp hc
    have q := List.all_eq_true.mp ((Array.all_eq_true_iff_forall_mem.mp hF) _ (Array.getElem_mem ha)) i (List.mem_range.mpr hi)
    simpa [Array.getElem?_eq_getElem hi] using q
  obtain ⟨i0, ei0⟩ := is_v ha0
  obtain rfl : w0 = (.int i0) := Option.some.inj ei0
  obtain ⟨i1, ei1⟩ := is_v ha1
  obtain rfl : w1 = (.int i1) := Option.some.inj ei1
  obtain ⟨i2, ei2⟩ := is_v hg2
  obtain rfl : w2 = (.int i2) := Option.some.inj ei2
  obtain ⟨n, o, h1, h2, h3, _, L, rfl, ⟨rfl, N⟩, hq⟩ := rm0 l s _ hw tables_1 i0 i1 i2 s.heap s.heap.size (Nat.le_refl _)  p e ha hc hk s m _ below hf ((Spec.applies_iff_loose hf).mp happ).1 ⟨rfl, State.Warmed39.refl s, rfl⟩ trivial
  refine ⟨n, _, h1, h2, h3, hpost _ _ _ _ _ _ ⟨Cond.after_iff.mpr rfl, Cond.after_iff.mpr (eq_i res_at (Term.int_eval (1)) rfl), trivial⟩ ⟨hq.1, hq.2.1, (hq.2.2.sift fun y hy => Or.inr (N y hy)).mono (by decide) (by decide)⟩⟩
theorem main_1_1 : Claimed_1_1 := comes_1 fun _ _ _ _ _ _ h hF => ⟨h.1, hF⟩
theorem main_1_2 : Claimed_1_2 := comes_1 fun _ _ _ _ _ _ h hF => ⟨h.2.1, hF⟩
end Jvm.Pilot.@@N@@
namespace Jvm.Pilot.@@N@@
open Jvm Jvm.ClassFile Sem Op Lib Jvm.Free Jvm.Stand Jvm.Pilot.@@N@@.Jvm.D
/-! MADE BY PROGRAM (witnessworld.py) out of the Statement's table words and the real class files: 9 classes; the members and pool entries that the words name. The judged class is class 1, her method 1. -/
namespace start1
open Jvm.ClassFile
def u (s : String) : CpInfo := .utf8 (stringToUtf16 s)
/-- a pool by its gaps: so many unusable entries, then the entry; so many at the end -/
def gap : Nat → List CpInfo → List CpInfo
  | 0, r => r
  | n + 1, r => .unusable :: gap n r
def poolList (es : List (Nat × CpInfo)) (last : Nat) : List CpInfo := es.foldr (fun e r => gap e.1 (e.2 :: r)) (gap last [])
def pool (es : List (Nat × CpInfo)) (last : Nat) : Array CpInfo := ⟨poolList es last⟩
def fileOf (pool : Array CpInfo) (this : Nat) (attrs : Array Attribute := #[]) (ms : Array MethodInfo := #[]) (fl : Nat := 33) (sup : Nat := 0) (ifs : Array Nat := #[]) (fds : Array FieldInfo := #[]) : ClassFile where
  minorVersion := 0
  majorVersion := 65
  constantPool := pool
  accessFlags := fl
  thisClass := this
  superClass := sup
  interfaces := ifs
  fields := fds
  methods := ms
  attributes := attrs
def plain (name : String) (sup : Option ClassId) : Class where
  name := name
  kind := .ordinary
  loader := none
  accessFlags := 33
  super := sup
  interfaces := #[]
  cf := none
  fields := #[]
  methods := #[]
  instanceTypes := #[]
  staticTypes := #[]
  resolved := #[]
  callSites := []
  init := .initialized
  statics := none
  mirror := none

def pool0 : Array CpInfo := pool [(5, u "<init>"), (0, u "()V"), (1, .class_ 10), (1, u "java/lang/Object")] 113

def k0m0 : Method := { name := "<init>", desc := "()V", sig := { parameters := [], returnType := none }, accessFlags := 1, code := none }
/-- java/lang/Object -/
def k0 : Class := { plain "java/lang/Object" none with
  accessFlags := 33
  interfaces := #[]
  cf := some (fileOf pool0 8 #[] #[{ accessFlags := 1, nameIndex := 5, descriptorIndex := 6, attributes := #[] }] 33 0 #[] #[])
  fields := #[]
  methods := #[k0m0]
  instanceTypes := #[]
  staticTypes := #[]
  resolved := Array.replicate 124 none
  statics := none }

def pool1 : Array CpInfo := pool [(2, .class_ 4), (1, u "java/lang/Object"), (0, u "<init>"), (0, u "()V"), (0, .integer 2147483647), (0, .methodref 9 10), (0, .class_ 11), (0, .nameAndType 12 13), (0, u "com/example/utopia/utopia/mdp/Strategy"), (0, u "key"), (0, u "(IIZ)J"), (0, .methodref 9 15), (0, .nameAndType 16 17), (0, u "stateOf"), (0, u "(J)I"), (0, .methodref 9 19), (0, .nameAndType 20 17), (0, u "reachedOf"), (0, .methodref 9 22), (0, .nameAndType 23 24), (0, u "settledOf"), (0, u "(J)Z"), (0, .long 4294967296), (1, .long 2147483648), (1, .class_ 30), (0, u "com/example/utopia/utopia/mdp/StrategyKeyPinLaw"), (2, u "law"), (0, u "(III)Z")] 3

def k1m0 : Method := { name := "<init>", desc := "()V", sig := { parameters := [], returnType := none }, accessFlags := 1, code := none }
def k1c1 : Code := { maxStack := 4, maxLocals := 10, code := code, exceptionTable := #[], attributes := #[] }
def k1m1 : Method := { name := "law", desc := "(III)Z", sig := { parameters := [.int, .int, .int], returnType := some .boolean }, accessFlags := 9, code := some k1c1 }
/-- com/example/utopia/utopia/mdp/StrategyKeyPinLaw -/
def k1 : Class := { plain "com/example/utopia/utopia/mdp/StrategyKeyPinLaw" (some 0) with
  accessFlags := 49
  interfaces := #[]
  cf := some (fileOf pool1 29 #[] #[{ accessFlags := 1, nameIndex := 5, descriptorIndex := 6, attributes := #[] }, { accessFlags := 9, nameIndex := 33, descriptorIndex := 34, attributes := #[] }] 49 2 #[] #[])
  fields := #[]
  methods := #[k1m0, k1m1]
  instanceTypes := #[]
  staticTypes := #[]
  resolved := Array.replicate 38 none
  statics := none }

def pool2 : Array CpInfo := pool [(2, .class_ 4), (1, u "java/lang/Object"), (28, .class_ 34), (0, u "com/example/utopia/utopia/mdp/Strategy$Part"), (3, u "D"), (10, .class_ 50), (0, u "com/example/utopia/utopia/mdp/Strategy"), (9, u "parts"), (0, u "Ljava/util/List;"), (21, .long 2147483647), (11, .long 2147483648), (37, .class_ 135), (1, u "com/example/utopia/utopia/mdp/Strategy$Decider"), (34, u "SHARE_TOLERANCE"), (1, u "SETTLED"), (0, u "J"), (0, u "SETTLES_AGAIN"), (0, u "Ljava/lang/String;"), (11, u "key"), (0, u "(IIZ)J"), (0, u "stateOf"), (0, u "(J)I"), (0, u "reachedOf"), (0, u "settledOf"), (0, u "(J)Z"), (14, .class_ 209), (0, u "com/example/utopia/utopia/mdp/Strategy$Runs")] 42

def k2c0 : Code := { maxStack := 4, maxLocals := 3, code := prog_88_method_6_code, exceptionTable := #[], attributes := #[] }
def k2m0 : Method := { name := "key", desc := "(IIZ)J", sig := { parameters := [.int, .int, .boolean], returnType := some .long }, accessFlags := 8, code := some k2c0 }
def k2c1 : Code := { maxStack := 3, maxLocals := 2, code := prog_88_method_7_code, exceptionTable := #[], attributes := #[] }
def k2m1 : Method := { name := "stateOf", desc := "(J)I", sig := { parameters := [.long], returnType := some .int }, accessFlags := 8, code := some k2c1 }
def k2c2 : Code := { maxStack := 4, maxLocals := 2, code := prog_88_method_8_code, exceptionTable := #[], attributes := #[] }
def k2m2 : Method := { name := "reachedOf", desc := "(J)I", sig := { parameters := [.long], returnType := some .int }, accessFlags := 8, code := some k2c2 }
def k2c3 : Code := { maxStack := 4, maxLocals := 2, code := prog_88_method_9_code, exceptionTable := #[], attributes := #[] }
def k2m3 : Method := { name := "settledOf", desc := "(J)Z", sig := { parameters := [.long], returnType := some .boolean }, accessFlags := 8, code := some k2c3 }
/-- com/example/utopia/utopia/mdp/Strategy -/
def k2 : Class := { plain "com/example/utopia/utopia/mdp/Strategy" (some 0) with
  accessFlags := 33
  interfaces := #[]
  cf := some (fileOf pool2 49 #[.nestMembers #[33, 208, 133]] #[{ accessFlags := 8, nameIndex := 187, descriptorIndex := 188, attributes := #[] }, { accessFlags := 8, nameIndex := 189, descriptorIndex := 190, attributes := #[] }, { accessFlags := 8, nameIndex := 191, descriptorIndex := 190, attributes := #[] }, { accessFlags := 8, nameIndex := 192, descriptorIndex := 193, attributes := #[] }] 33 2 #[] #[{ accessFlags := 25, nameIndex := 170, descriptorIndex := 38, attributes := #[] }, { accessFlags := 26, nameIndex := 172, descriptorIndex := 173, attributes := #[] }, { accessFlags := 26, nameIndex := 174, descriptorIndex := 175, attributes := #[] }, { accessFlags := 18, nameIndex := 60, descriptorIndex := 61, attributes := #[] }])
  fields := #[{ name := "SHARE_TOLERANCE", type := .double, accessFlags := 25, slot := 0, constantValue := 0 }, { name := "SETTLED", type := .long, accessFlags := 26, slot := 1, constantValue := 0 }, { name := "SETTLES_AGAIN", type := (.object "java/lang/String"), accessFlags := 26, slot := 2, constantValue := 0 }, { name := "parts", type := (.object "java/util/List"), accessFlags := 18, slot := 0, constantValue := 0 }]
  methods := #[k2m0, k2m1, k2m2, k2m3]
  instanceTypes := #[(.object "java/util/List")]
  staticTypes := #[.double, .long, (.object "java/lang/String")]
  resolved := Array.replicate 252 none
  statics := none }

def pool3 : Array CpInfo := pool [(1, u "java/lang/Cloneable"), (0, .class_ 1), (0, u "java/lang/Object"), (0, .class_ 3)] 3

/-- java/lang/Cloneable -/
def k3 : Class := { plain "java/lang/Cloneable" (some 0) with
  accessFlags := 1537
  interfaces := #[]
  cf := some (fileOf pool3 2 #[] #[] 1537 4 #[] #[])
  fields := #[]
  methods := #[]
  instanceTypes := #[]
  staticTypes := #[]
  resolved := Array.replicate 8 none
  statics := none }

def pool4 : Array CpInfo := pool [(1, u "java/io/Serializable"), (0, .class_ 1), (0, u "java/lang/Object"), (0, .class_ 3)] 3

/-- java/io/Serializable -/
def k4 : Class := { plain "java/io/Serializable" (some 0) with
  accessFlags := 1537
  interfaces := #[]
  cf := some (fileOf pool4 2 #[] #[] 1537 4 #[] #[])
  fields := #[]
  methods := #[]
  instanceTypes := #[]
  staticTypes := #[]
  resolved := Array.replicate 8 none
  statics := none }

/-- the primitive byte -/
def k5 : Class := { plain "byte" none with kind := .primitive 'B', accessFlags := 0x411 }
/-- [B -/
def k6 : Class := { plain "[B" (some 0) with kind := .array 5 .byte, interfaces := #[3, 4], accessFlags := 1041 }

/-- the primitive int -/
def k7 : Class := { plain "int" none with kind := .primitive 'I', accessFlags := 0x411 }
/-- [I -/
def k8 : Class := { plain "[I" (some 0) with kind := .array 7 .int, interfaces := #[3, 4], accessFlags := 1041 }

def heap : Heap := #[]
def classes : Array Class := #[k0, k1, k2, k3, k4, k5, k6, k7, k8]
def interned : List (Array UInt16 × Addr) := []
def slotsUsed : Nat := 0
def theMethod : MethodId := ⟨1, 1⟩
def args0 : Array Value := #[.int 5, .int 7, .int 1]
def aboutOver (below : List Frame) : State where
  vm := { classes := classes, interned := interned.toArray }
  heap := heap
  slotsUsed := slotsUsed
  threads := #[{ frames := .invoking theMethod args0 :: below }]
def below0 : List Frame := [.native { method := ⟨0, 0⟩, args := #[] }]
def about1 : State := aboutOver below0
def p0 : Program := .bare "" "" ""
def e0 : Env := launch0.env 0 0 0
theorem w_frames : about1.frames = Frame.invoking theMethod args0 :: below0 := rfl
set_option maxRecDepth 65536 in
theorem w_args : argsFit about1.vm theMethod args0 = true := by decide +kernel
set_option maxRecDepth 65536 in
theorem w_heap : heapFits about1 = true := by decide +kernel
set_option maxRecDepth 65536 in
theorem w_runnable : about1.curStatus? = some .runnable := by decide +kernel
set_option maxRecDepth 65536 in
theorem w_alone : about1.alone = true := by decide +kernel
set_option maxRecDepth 65536 in
theorem w_named : about1.methodNamed? x = some theMethod := by decide +kernel
set_option maxRecDepth 65536 in
theorem w_hears : about1.hears theMethod below0 = true := by decide +kernel
set_option maxRecDepth 65536 in
theorem w_ripe : about1.ripe theMethod args0 below0 = true := by decide +kernel
theorem w_running : about1.status = .running := rfl
set_option maxRecDepth 65536 in
theorem w_room : about1.hasRoom e0.platform room_1 = true :=
  launch0.hasRoom_least _ room_1 (by decide +kernel) (by decide +kernel) (by decide +kernel) (by decide +kernel) (by decide +kernel) (by decide +kernel)
theorem allAtoms_all (ts : List Jvm.Cond) (a : Array Jvm.Value) (st : Jvm.State) : (allAtoms ts).before a st = ts.all (fun c => c.before a st) := by
  induction ts with
  | nil => rfl
  | cons c t ih =>
    show (Jvm.Cond.and c (allAtoms t)).before a st = _
    rw [Jvm.Cond.before_and, ih, List.all_cons]
def words1 : List Jvm.Cond := Jvm.Cond.code x code maxLocals ret :: tables_1
/-- a 'code' word, met by the world's own term for the bytes: nothing is compared byte by byte -/
theorem code_word {y : MethodName} {bytes : ByteArray} {mx : Nat} {rt : Option FieldType} {a : Array Value} {s : State} {m : MethodId} {meth : Method} {c : Code} (h1 : s.methodNamed? y = some m) (h2 : s.vm.method? m = some meth) (h3 : meth.code = some c) (h4 : c.code = bytes)
    (h5 : (c.maxLocals == mx && c.exceptionTable.isEmpty && decide (c.maxStack ≤ mostOperands) && decide (meth.sig.returnType = rt) && !meth.locks && decide (parseMethodDescriptor y.desc = some meth.sig)) = true) : (Jvm.Cond.code y bytes mx rt).before a s = true := by
  simp only [Bool.and_eq_true, beq_iff_eq, Bool.not_eq_true', decide_eq_true_eq] at h5
  obtain ⟨⟨⟨⟨⟨g1, g2⟩, g3⟩, g4⟩, g5⟩, g6⟩ := h5
  simp [Cond.before, Cond.holds, Cond.value, h1, h2, h3, h4, g1, g2, g3, g4, g5, g6]
def isCode : Jvm.Cond → Bool
  | .code _ _ _ _ => true
  | _ => false
theorem all_split {L : List Jvm.Cond} {P : Jvm.Cond → Bool} (h1 : L.all (fun c => isCode c || P c) = true) (h2 : ∀ c ∈ L.filter isCode, P c = true) : L.all P = true := by
  refine List.all_eq_true.mpr fun c hc => ?_
  have h := List.all_eq_true.mp h1 c hc
  rcases Bool.eq_false_or_eq_true (isCode c) with hi | hi
  · exact h2 c (List.mem_filter.mpr ⟨hc, hi⟩)
  · simpa [hi] using h
set_option maxRecDepth 65536 in
theorem w_c0 : (Jvm.Cond.code x code maxLocals ret).before args0 about1 = true := code_word (m := ⟨1, 1⟩) (meth := k1m1) (c := k1c1) (by decide +kernel) rfl rfl rfl (by decide +kernel)
set_option maxRecDepth 65536 in
theorem w_c1 : (Jvm.Cond.code ({ cls := "com/example/utopia/utopia/mdp/Strategy", name := "key", desc := "(IIZ)J" } : Jvm.MethodName) prog_88_method_6_code (3 : Nat) (Option.some Jvm.ClassFile.FieldType.long)).before args0 about1 = true := code_word (m := ⟨2, 0⟩) (meth := k2m0) (c := k2c0) (by decide +kernel) rfl rfl rfl (by decide +kernel)
set_option maxRecDepth 65536 in
theorem w_c2 : (Jvm.Cond.code ({ cls := "com/example/utopia/utopia/mdp/Strategy", name := "stateOf", desc := "(J)I" } : Jvm.MethodName) prog_88_method_7_code (2 : Nat) (Option.some Jvm.ClassFile.FieldType.int)).before args0 about1 = true := code_word (m := ⟨2, 1⟩) (meth := k2m1) (c := k2c1) (by decide +kernel) rfl rfl rfl (by decide +kernel)
set_option maxRecDepth 65536 in
theorem w_c3 : (Jvm.Cond.code ({ cls := "com/example/utopia/utopia/mdp/Strategy", name := "reachedOf", desc := "(J)I" } : Jvm.MethodName) prog_88_method_8_code (2 : Nat) (Option.some Jvm.ClassFile.FieldType.int)).before args0 about1 = true := code_word (m := ⟨2, 2⟩) (meth := k2m2) (c := k2c2) (by decide +kernel) rfl rfl rfl (by decide +kernel)
set_option maxRecDepth 65536 in
theorem w_c4 : (Jvm.Cond.code ({ cls := "com/example/utopia/utopia/mdp/Strategy", name := "settledOf", desc := "(J)Z" } : Jvm.MethodName) prog_88_method_9_code (2 : Nat) (Option.some Jvm.ClassFile.FieldType.boolean)).before args0 about1 = true := code_word (m := ⟨2, 3⟩) (meth := k2m3) (c := k2c3) (by decide +kernel) rfl rfl rfl (by decide +kernel)
def codes1 : List Jvm.Cond := [Jvm.Cond.code x code maxLocals ret, Jvm.Cond.code ({ cls := "com/example/utopia/utopia/mdp/Strategy", name := "key", desc := "(IIZ)J" } : Jvm.MethodName) prog_88_method_6_code (3 : Nat) (Option.some Jvm.ClassFile.FieldType.long), Jvm.Cond.code ({ cls := "com/example/utopia/utopia/mdp/Strategy", name := "stateOf", desc := "(J)I" } : Jvm.MethodName) prog_88_method_7_code (2 : Nat) (Option.some Jvm.ClassFile.FieldType.int), Jvm.Cond.code ({ cls := "com/example/utopia/utopia/mdp/Strategy", name := "reachedOf", desc := "(J)I" } : Jvm.MethodName) prog_88_method_8_code (2 : Nat) (Option.some Jvm.ClassFile.FieldType.int), Jvm.Cond.code ({ cls := "com/example/utopia/utopia/mdp/Strategy", name := "settledOf", desc := "(J)Z" } : Jvm.MethodName) prog_88_method_9_code (2 : Nat) (Option.some Jvm.ClassFile.FieldType.boolean)]
set_option maxRecDepth 65536 in
theorem codes_eq : words1.filter isCode = codes1 := rfl
theorem w_codes : ∀ c ∈ words1.filter isCode, c.before args0 about1 = true := by
  rw [codes_eq]
  intro c hc
  simp only [codes1, List.mem_cons, List.not_mem_nil, or_false] at hc
  rcases hc with rfl | rfl | rfl | rfl | rfl
  · exact w_c0
  · exact w_c1
  · exact w_c2
  · exact w_c3
  · exact w_c4
set_option maxRecDepth 65536 in
theorem w_t1 : words1.all (fun c => isCode c || c.before args0 about1) = true := by decide +kernel
theorem w_tables : (allAtoms (Jvm.Cond.code x code maxLocals ret :: tables_1)).before args0 about1 = true := by
  rw [allAtoms_all]
  show words1.all (fun c => c.before args0 about1) = true
  refine all_split ?_ w_codes
  rw [w_t1]
set_option maxRecDepth 65536 in
theorem w_case : (Jvm.Cond.and given_1 narrow_1).before args0 about1 = true := by decide +kernel
theorem w_applies : (headSpec (Jvm.Cond.code x code maxLocals ret :: tables_1) room_1).applies x e0.platform about1 = true :=
  (Spec.applies_iff w_frames).mpr ⟨w_running, w_runnable, w_alone, w_named, w_hears, w_ripe, w_room, w_tables⟩
theorem atStart : AtStart classFile x code maxLocals ret World_1 tables_1 room_1 Calls_1 rest_1 Pre_1 launch0 p0 e0 about1 theMethod args0 below0 :=
  ⟨lists_1, trivial, launch0.admits_env _ _ _, launch0.least_env, fairChoices_fair.cas, fairChoices_fair.clock, w_frames, w_args, w_heap, w_applies, trivial, trivial, w_case⟩
end start1
theorem witness_1 : WitnessClaimed_1 := ⟨start1.p0, start1.e0, start1.about1, start1.theMethod, start1.args0, start1.below0, start1.atStart⟩
end Jvm.Pilot.@@N@@
