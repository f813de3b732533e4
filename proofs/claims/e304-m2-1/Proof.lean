import JvmDerived
import JvmDerived.Pilot.@@N@@Statement
import JvmDerived.Pilot.@@N@@Code
set_option linter.unusedVariables false
set_option linter.unusedSimpArgs false
namespace Jvm.RoadKit
open Sem ClassFile Op Lib Jvm.Stand Jvm.Free Jvm.LawKit
section New
variable {p : Program} {l : Launch} {e : Env} {R : Room} {s : State} {m : MethodId} {args : Array Value} {below : List Frame} {meth : Method} {c : Code} {T : State} {locs : List Loc} {cells slots : Nat}
theorem retI (X : Stand p l e R s m args below meth c T locs cells slots) (hx : p.tables.exec = Jvm.exec) {pc : Nat} {Ls : Array Slot} {z : Int32} {rest : List Value} (hret : meth.sig.returnType = some .int) (hd : decode c.code pc = .ok (.ireturn, 1)) {fs : List Frame}
    (hl : ∀ (f : JFrame) (acts : List Action), f.method = m → f.locked = none → f.entered = [] → (doReturn e (T.setTop f) acts (some (.int z))).1 = T.setFrames fs) : Steps p.tables e below (T.setTop (mkF m pc Ls (.int z :: rest))) (T.setFrames fs) := by
  have hm' : T.vm.method? m = some meth := X.method'
  have hn : narrow .int (.int z) = .int z := rfl
  show Steps p.tables e below (T.setTop { method := m, pc := pc, locals := Ls, stack := _ :: rest, locked := none }) _
  jvm_step X.here [X.here.top, hx, hd, hm', hret, hn]
  first | (intro acts; rw [hl _ acts rfl rfl rfl]) | rw [hl _ _ rfl rfl rfl]
  exact Steps.refl _
end New
end Jvm.RoadKit
namespace Jvm.Pilot.@@N@@
open Jvm Jvm.ClassFile Sem Op Lib Jvm.Free Jvm.Stand Jvm.LawKit Jvm.RoadKit Bundle Jvm.Pilot.@@N@@.Jvm.D
abbrev own_JC : String := "com/example/arthurs_seat/arthursseat/language/Junction"
abbrev own_JD : String := "Lcom/example/arthurs_seat/arthursseat/language/Junction;"
def own_max (a b : Int32) : Int32 := if a < b then b else a
/-- an array of ten references -/
def own_A (Z : State) (h : Heap) (a : Addr) : Prop := ∃ c : Cell, Arr Z h a c (.object "java/lang/Object") ∧ c.slots.size = (10 : Int32).toNatClampNeg ∧ Ovr Z c.cls "java/lang/Object"
/-- an array of references, whatever it holds -/
def own_O (Z : State) (h : Heap) (a : Addr) : Prop := ∃ c : Cell, Arr Z h a c (.object "java/lang/Object")
theorem own_arrKeep {Z : State} {h h' : Heap} {ws : List Addr} {a : Addr} {c : Cell} {ty : FieldType} (F : Arr Z h a c ty) (K : Keep h h' ws) : ∃ c' : Cell, Arr Z h' a c' ty ∧ c'.cls = c.cls ∧ c'.slots.size = c.slots.size := by
  obtain ⟨h1, h2, h3⟩ := F
  obtain ⟨c', q1, q2, q3, q4⟩ := K.2.2 a c h1
  refine ⟨c', ⟨q1, ?_, by rw [q3]; exact h3⟩, q2, q4⟩
  obtain ⟨r1, k, r2, r3⟩ := h2
  exact ⟨by rw [q3]; exact r1, k, by rw [q2]; exact r2, r3⟩
theorem own_A.keep {Z : State} {h h' : Heap} {ws : List Addr} {a : Addr} (F : own_A Z h a) (K : Keep h h' ws) : own_A Z h' a := by
  obtain ⟨c, A, s, O⟩ := F
  obtain ⟨c', A', q, r⟩ := own_arrKeep A K
  exact ⟨c', A', r.trans s, by rw [q]; exact O⟩
theorem own_A.wr {Z : State} {h h' : Heap} {a b : Addr} {sl : Nat} {v : Value} (F : own_A Z h a) (W : Wr h h' b sl v) : own_A Z h' a := F.keep (Keep.of_wr W)
theorem own_A.ext {Z : State} {h h' : Heap} {a : Addr} (F : own_A Z h a) (E : Ext h h') : own_A Z h' a := by
  obtain ⟨c, A, r⟩ := F
  exact ⟨c, A.ext E, r⟩
theorem own_A.o {Z : State} {h : Heap} {a : Addr} (F : own_A Z h a) : own_O Z h a := by obtain ⟨c, A, -⟩ := F; exact ⟨c, A⟩
theorem own_O.lt {Z : State} {h : Heap} {a : Addr} (F : own_O Z h a) : a < h.size := by obtain ⟨c, A⟩ := F; exact A.lt
/-- two arrays of different components -/
theorem own_ne2 {Z : State} {h : Heap} {a b : Addr} {c c' : Cell} {C D : String} (F : Arr Z h a c (.object C)) (G : Arr Z h b c' (.object D)) (hn : C ≠ D) : a ≠ b := fun e => by
  subst e
  obtain ⟨h1, ⟨-, k, h2, comp, h3⟩, -⟩ := F
  obtain ⟨g1, ⟨-, k', g2, comp', g3⟩, -⟩ := G
  cases h1.symm.trans g1
  cases h2.symm.trans g2
  rw [h3] at g3
  injection g3 with q1 q2
  injection q2 with q3
  exact hn q3
/-- a list: empty with the shared empty array, or one of at most B elements in an array of ten of its own -/
def own_L (Z : State) (h : Heap) (n0 : Nat) (dfl dl : Addr) (B : Int) : Prop :=
  Exa Z h dl "java/util/ArrayList" ∧ ∃ (mc n : Int32) (ed : Addr), Fld Z h dl "java/util/AbstractList" "modCount" "I" (.int mc) ∧ Fld Z h dl "java/util/ArrayList" "size" "I" (.int n) ∧
    Fld Z h dl "java/util/ArrayList" "elementData" "[Ljava/lang/Object;" (.ref ed) ∧ ((n = 0 ∧ ed = dfl) ∨ (0 ≤ n.toInt ∧ n.toInt ≤ B ∧ n0 ≤ ed ∧ own_A Z h ed))
theorem own_L.keep {Z : State} {h h' : Heap} {n0 : Nat} {dfl dl : Addr} {B : Int} {ws : List Addr} (F : own_L Z h n0 dfl dl B) (K : Keep h h' ws) (q : dl ∉ ws) : own_L Z h' n0 dfl dl B := by
  obtain ⟨E, mc, n, ed, f1, f2, f3, f4⟩ := F
  exact ⟨E.keep K, mc, n, ed, f1.keep K q, f2.keep K q, f3.keep K q, f4.imp id fun ⟨a, b, c, d⟩ => ⟨a, b, c, d.keep K⟩⟩
theorem own_L.mono {Z : State} {h : Heap} {n0 : Nat} {dfl dl : Addr} {B B' : Int} (F : own_L Z h n0 dfl dl B) (hB : B ≤ B') : own_L Z h n0 dfl dl B' := by
  obtain ⟨E, mc, n, ed, f1, f2, f3, f4⟩ := F
  exact ⟨E, mc, n, ed, f1, f2, f3, f4.imp id fun ⟨a, b, c, d⟩ => ⟨a, by omega, c, d⟩⟩
/-- a junction and what feeds it -/
def own_J (Z : State) (h : Heap) (x : Addr) (u : Value) : Prop :=
  Exa Z h x own_JC ∧ Fld Z h x own_JC "upstream" own_JD u ∧ Fld Z h x own_JC "source" "Lcom/example/arthurs_seat/arthursseat/model/ConnectionSource;" .null ∧ ∃ f : Int32, Fld Z h x own_JC "fed" "Z" (.int f)
theorem own_J.keep {Z : State} {h h' : Heap} {x : Addr} {u : Value} {ws : List Addr} (F : own_J Z h x u) (K : Keep h h' ws) (q : x ∉ ws) : own_J Z h' x u := by
  obtain ⟨E, f1, f2, f, f3⟩ := F
  exact ⟨E.keep K, f1.keep K q, f2.keep K q, f, f3.keep K q⟩
def own_sel (p : Int32) (a b c d : Addr) : Addr := if p = 0 then a else if p = 1 then b else if p = 2 then c else d
/-- what feeds a junction whose law's place is q -/
def own_u (q : Int32) (a b c : Addr) : Value := if q < 0 then .null else .ref (own_sel q a b c c)
/-- the head of a: r, in at most n steps up -/
def own_Up (Z : State) (h : Heap) : Nat → Addr → Addr → Prop
  | 0, a, r => a = r ∧ Fld Z h a own_JC "upstream" own_JD .null
  | n + 1, a, r => (a = r ∧ Fld Z h a own_JC "upstream" own_JD .null) ∨ ∃ b : Addr, Fld Z h a own_JC "upstream" own_JD (.ref b) ∧ own_Up Z h n b r
theorem own_Up.up {Z : State} {h : Heap} : ∀ (n : Nat) (a r : Addr), own_Up Z h n a r → own_Up Z h (n + 1) a r
  | 0, _, _, F => Or.inl F
  | n + 1, _, _, F => F.imp id fun ⟨b, f, g⟩ => ⟨b, f, own_Up.up n b _ g⟩
theorem own_remk (p d : Int32) (D : Int) (hd : d.toInt = D) (h0 : 0 < D) (h9 : D ≤ 9) : -1 ≤ (((p &&& (2147483647 : Int32)) % d) - (1 : Int32)).toInt ∧ (((p &&& (2147483647 : Int32)) % d) - (1 : Int32)).toInt ≤ D - 2 := by
  have h1 := c_and p (2147483647 : Int32) (by decide)
  have h2 := (c_irem (p &&& (2147483647 : Int32)) d D hd).1 h1.1
  have h3 := c_isub ((p &&& (2147483647 : Int32)) % d) (1 : Int32)
  have r := rng32 (((p &&& (2147483647 : Int32)) % d) - (1 : Int32))
  rw [show (1 : Int32).toInt = 1 from rfl] at h3
  have h4 : 0 ≤ (p &&& (2147483647 : Int32)).toInt % D := Int.emod_nonneg _ (by omega)
  have h5 : (p &&& (2147483647 : Int32)).toInt % D < D := Int.emod_lt_of_pos _ h0
  omega
theorem own_q1 (p : Int32) : ∃ q : Int32, q = ((p &&& (2147483647 : Int32)) % (2 : Int32)) - (1 : Int32) ∧ (q = (-1 : Int32) ∨ q = (0 : Int32)) := by
  refine ⟨_, rfl, ?_⟩
  have h := own_remk p (2 : Int32) 2 rfl (by decide) (by decide)
  generalize ((p &&& (2147483647 : Int32)) % (2 : Int32)) - (1 : Int32) = k at *
  simp only [← Int32.toInt_inj, show (-1 : Int32).toInt = -1 from rfl, show (0 : Int32).toInt = 0 from rfl]
  omega
theorem own_q2 (p : Int32) : ∃ q : Int32, q = ((p &&& (2147483647 : Int32)) % (3 : Int32)) - (1 : Int32) ∧ (q = (-1 : Int32) ∨ q = (0 : Int32) ∨ q = (1 : Int32)) := by
  refine ⟨_, rfl, ?_⟩
  have h := own_remk p (3 : Int32) 3 rfl (by decide) (by decide)
  generalize ((p &&& (2147483647 : Int32)) % (3 : Int32)) - (1 : Int32) = k at *
  simp only [← Int32.toInt_inj, show (-1 : Int32).toInt = -1 from rfl, show (0 : Int32).toInt = 0 from rfl, show (1 : Int32).toInt = 1 from rfl]
  omega
theorem own_q3 (p : Int32) : ∃ q : Int32, q = ((p &&& (2147483647 : Int32)) % (4 : Int32)) - (1 : Int32) ∧ (q = (-1 : Int32) ∨ q = (0 : Int32) ∨ q = (1 : Int32) ∨ q = (2 : Int32)) := by
  refine ⟨_, rfl, ?_⟩
  have h := own_remk p (4 : Int32) 4 rfl (by decide) (by decide)
  generalize ((p &&& (2147483647 : Int32)) % (4 : Int32)) - (1 : Int32) = k at *
  simp only [← Int32.toInt_inj, show (-1 : Int32).toInt = -1 from rfl, show (0 : Int32).toInt = 0 from rfl, show (1 : Int32).toInt = 1 from rfl, show (2 : Int32).toInt = 2 from rfl]
  omega
theorem own_k (p : Int32) : ∃ q : Int32, q = p &&& (3 : Int32) ∧ (q = (0 : Int32) ∨ q = (1 : Int32) ∨ q = (2 : Int32) ∨ q = (3 : Int32)) := by
  refine ⟨_, rfl, ?_⟩
  have h := c_and p (3 : Int32) (by decide)
  rw [show (3 : Int32).toInt = 3 from rfl] at h
  generalize p &&& (3 : Int32) = k at *
  simp only [← Int32.toInt_inj, show (3 : Int32).toInt = 3 from rfl, show (0 : Int32).toInt = 0 from rfl, show (1 : Int32).toInt = 1 from rfl, show (2 : Int32).toInt = 2 from rfl]
  omega
/-- the world of the four junctions between the feeds -/
def own_W (Z : State) (h : Heap) (n0 : Nat) (dfl js : Addr) (kj : ClassId) (j0 j1 j2 j3 dl0 dl1 dl2 dl3 : Addr) (u1 u2 u3 : Value) (B : Int) : Prop :=
  own_J Z h j0 .null ∧ own_J Z h j1 u1 ∧ own_J Z h j2 u2 ∧ own_J Z h j3 u3 ∧
    Fld Z h j0 own_JC "downstream" "Ljava/util/List;" (.ref dl0) ∧ Fld Z h j1 own_JC "downstream" "Ljava/util/List;" (.ref dl1) ∧ Fld Z h j2 own_JC "downstream" "Ljava/util/List;" (.ref dl2) ∧ Fld Z h j3 own_JC "downstream" "Ljava/util/List;" (.ref dl3) ∧
    own_L Z h n0 dfl dl0 B ∧ own_L Z h n0 dfl dl1 B ∧ own_L Z h n0 dfl dl2 B ∧ Arv Z h js kj (.object own_JC) (4 : Int32) [.ref j0, .ref j1, .ref j2, .ref j3] .null ∧ Old Z n0 h
def own_h1 (q1 : Int32) : Int32 := if q1 < (0 : Int32) then (1 : Int32) else (0 : Int32)
def own_h2 (q1 q2 : Int32) : Int32 := if q2 < (0 : Int32) then (2 : Int32) else if q2 = (0 : Int32) then (0 : Int32) else own_h1 q1
def own_h3 (q1 q2 q3 : Int32) : Int32 := if q3 < (0 : Int32) then (3 : Int32) else if q3 = (0 : Int32) then (0 : Int32) else if q3 = (1 : Int32) then own_h1 q1 else own_h2 q1 q2
theorem own_um (a b c : Addr) : own_u (-1 : Int32) a b c = .null := if_pos (by decide)
theorem own_u0 (a b c : Addr) : own_u (0 : Int32) a b c = .ref a := (if_neg (by decide)).trans (congrArg Value.ref (if_pos rfl))
theorem own_u1 (a b c : Addr) : own_u (1 : Int32) a b c = .ref b := (if_neg (by decide)).trans (congrArg Value.ref ((if_neg (by decide)).trans (if_pos rfl)))
theorem own_u2 (a b c : Addr) : own_u (2 : Int32) a b c = .ref c := (if_neg (by decide)).trans (congrArg Value.ref ((if_neg (by decide)).trans ((if_neg (by decide)).trans (if_pos rfl))))
theorem own_s0 (a b c d : Addr) : own_sel (0 : Int32) a b c d = a := if_pos rfl
theorem own_s1 (a b c d : Addr) : own_sel (1 : Int32) a b c d = b := (if_neg (by decide)).trans (if_pos rfl)
theorem own_s2 (a b c d : Addr) : own_sel (2 : Int32) a b c d = c := (if_neg (by decide)).trans ((if_neg (by decide)).trans (if_pos rfl))
theorem own_s3 (a b c d : Addr) : own_sel (3 : Int32) a b c d = d := (if_neg (by decide)).trans ((if_neg (by decide)).trans (if_neg (by decide)))
theorem own_h1m : own_h1 (-1 : Int32) = (1 : Int32) := if_pos (by decide)
theorem own_h10 : own_h1 (0 : Int32) = (0 : Int32) := if_neg (by decide)
theorem own_h2m (q : Int32) : own_h2 q (-1 : Int32) = (2 : Int32) := if_pos (by decide)
theorem own_h20 (q : Int32) : own_h2 q (0 : Int32) = (0 : Int32) := (if_neg (by decide)).trans (if_pos rfl)
theorem own_h21 (q : Int32) : own_h2 q (1 : Int32) = own_h1 q := (if_neg (by decide)).trans (if_neg (by decide))
theorem own_h3m (q r : Int32) : own_h3 q r (-1 : Int32) = (3 : Int32) := if_pos (by decide)
theorem own_h30 (q r : Int32) : own_h3 q r (0 : Int32) = (0 : Int32) := (if_neg (by decide)).trans (if_pos rfl)
theorem own_h31 (q r : Int32) : own_h3 q r (1 : Int32) = own_h1 q := (if_neg (by decide)).trans ((if_neg (by decide)).trans (if_pos rfl))
theorem own_h32 (q r : Int32) : own_h3 q r (2 : Int32) = own_h2 q r := (if_neg (by decide)).trans ((if_neg (by decide)).trans (if_neg (by decide)))
section OwnHeads
variable {Z : State} {h : Heap} {n0 : Nat} {dfl js : Addr} {kj : ClassId} {j0 j1 j2 j3 dl0 dl1 dl2 dl3 : Addr} {q1 q2 q3 : Int32} {B : Int}
theorem own_up0 (W : own_W Z h n0 dfl js kj j0 j1 j2 j3 dl0 dl1 dl2 dl3 (own_u q1 j0 j1 j2) (own_u q2 j0 j1 j2) (own_u q3 j0 j1 j2) B) : own_Up Z h 0 j0 j0 := ⟨rfl, W.1.2.1⟩
theorem own_up1 (W : own_W Z h n0 dfl js kj j0 j1 j2 j3 dl0 dl1 dl2 dl3 (own_u q1 j0 j1 j2) (own_u q2 j0 j1 j2) (own_u q3 j0 j1 j2) B) (c1 : q1 = (-1 : Int32) ∨ q1 = (0 : Int32)) : own_Up Z h 1 j1 (own_sel (own_h1 q1) j0 j1 j2 j3) := by
  have F := W.2.1.2.1
  have G0 := own_up0 W
  rcases c1 with rfl | rfl
  · rw [own_um] at F; rw [own_h1m, own_s1]; exact Or.inl ⟨rfl, F⟩
  · rw [own_u0] at F; rw [own_h10, own_s0]; exact Or.inr ⟨j0, F, G0⟩
theorem own_up2 (W : own_W Z h n0 dfl js kj j0 j1 j2 j3 dl0 dl1 dl2 dl3 (own_u q1 j0 j1 j2) (own_u q2 j0 j1 j2) (own_u q3 j0 j1 j2) B) (c1 : q1 = (-1 : Int32) ∨ q1 = (0 : Int32)) (c2 : q2 = (-1 : Int32) ∨ q2 = (0 : Int32) ∨ q2 = (1 : Int32)) : own_Up Z h 2 j2 (own_sel (own_h2 q1 q2) j0 j1 j2 j3) := by
  have F := W.2.2.1.2.1
  have G := own_up1 W c1
  have G0 := own_up0 W
  rcases c2 with rfl | rfl | rfl
  · rw [own_um] at F; rw [own_h2m, own_s2]; exact Or.inl ⟨rfl, F⟩
  · rw [own_u0] at F; rw [own_h20, own_s0]; exact Or.inr ⟨j0, F, own_Up.up _ _ _ G0⟩
  · rw [own_u1] at F; rw [own_h21]; exact Or.inr ⟨j1, F, G⟩
theorem own_up3 (W : own_W Z h n0 dfl js kj j0 j1 j2 j3 dl0 dl1 dl2 dl3 (own_u q1 j0 j1 j2) (own_u q2 j0 j1 j2) (own_u q3 j0 j1 j2) B) (c1 : q1 = (-1 : Int32) ∨ q1 = (0 : Int32)) (c2 : q2 = (-1 : Int32) ∨ q2 = (0 : Int32) ∨ q2 = (1 : Int32)) (c3 : q3 = (-1 : Int32) ∨ q3 = (0 : Int32) ∨ q3 = (1 : Int32) ∨ q3 = (2 : Int32)) : own_Up Z h 3 j3 (own_sel (own_h3 q1 q2 q3) j0 j1 j2 j3) := by
  have F := W.2.2.2.1.2.1
  have G1 := own_up1 W c1
  have G2 := own_up2 W c1 c2
  have G0 := own_up0 W
  rcases c3 with rfl | rfl | rfl | rfl
  · rw [own_um] at F; rw [own_h3m, own_s3]; exact Or.inl ⟨rfl, F⟩
  · rw [own_u0] at F; rw [own_h30, own_s0]; exact Or.inr ⟨j0, F, own_Up.up _ _ _ (own_Up.up _ _ _ G0)⟩
  · rw [own_u1] at F; rw [own_h31]; exact Or.inr ⟨j1, F, own_Up.up _ _ _ G1⟩
  · rw [own_u2] at F; rw [own_h32]; exact Or.inr ⟨j2, F, G2⟩
end OwnHeads
theorem own_r1 {q1 : Int32} (c1 : q1 = (-1 : Int32) ∨ q1 = (0 : Int32)) : own_h1 q1 = (0 : Int32) ∨ own_h1 q1 = (1 : Int32) ∨ own_h1 q1 = (2 : Int32) ∨ own_h1 q1 = (3 : Int32) := by
  rcases c1 with rfl | rfl <;> decide
theorem own_r2 {q1 q2 : Int32} (c1 : q1 = (-1 : Int32) ∨ q1 = (0 : Int32)) (c2 : q2 = (-1 : Int32) ∨ q2 = (0 : Int32) ∨ q2 = (1 : Int32)) : own_h2 q1 q2 = (0 : Int32) ∨ own_h2 q1 q2 = (1 : Int32) ∨ own_h2 q1 q2 = (2 : Int32) ∨ own_h2 q1 q2 = (3 : Int32) := by
  rcases c1 with rfl | rfl <;> rcases c2 with rfl | rfl | rfl <;> decide
theorem own_r3 {q1 q2 q3 : Int32} (c1 : q1 = (-1 : Int32) ∨ q1 = (0 : Int32)) (c2 : q2 = (-1 : Int32) ∨ q2 = (0 : Int32) ∨ q2 = (1 : Int32)) (c3 : q3 = (-1 : Int32) ∨ q3 = (0 : Int32) ∨ q3 = (1 : Int32) ∨ q3 = (2 : Int32)) : own_h3 q1 q2 q3 = (0 : Int32) ∨ own_h3 q1 q2 q3 = (1 : Int32) ∨ own_h3 q1 q2 q3 = (2 : Int32) ∨ own_h3 q1 q2 q3 = (3 : Int32) := by
  rcases c1 with rfl | rfl <;> rcases c2 with rfl | rfl | rfl <;> rcases c3 with rfl | rfl | rfl | rfl <;> decide
theorem d3_0 : decode jdk_31_method_11_code 0 = .ok (.aload_n 0, 1) := by decide +kernel
theorem d3_1 : decode jdk_31_method_11_code 1 = .ok (.ifnonnull 12, 3) := by decide +kernel
theorem d3_13 : decode jdk_31_method_11_code 13 = .ok (.aload_n 0, 1) := by decide +kernel
theorem d3_14 : decode jdk_31_method_11_code 14 = .ok (.areturn, 1) := by decide +kernel
theorem pn_c0 : plainName "java/util/Objects" = true := by first | (simp [plainName, overriddenIn]; done) | decide +kernel
theorem ef_rm3 (m : MethodId) (x0 : Addr) (x1 : Addr) : entryFrame m #[(.ref x0), (.ref x1)] 2 = mkF m 0 #[.val (.ref x0), .val (.ref x1)] [] := by first | (simp [entryFrame, mkF, argsToLocals, Value.category]; done) | rfl
def Q_rm3 (Z : State) (a1 : Addr) (h0 : Heap) (n0 : Nat) (v : Option Value) (h : Heap) (L : List Loc) : Prop := v = some (.ref a1) ∧ Fr n0 L ∧ h = h0
set_option maxRecDepth 65536 in
set_option maxHeartbeats 40000000 in
theorem rm3 (l : Launch) (Z : State) (a0 : Array Value) (hw : ∀ d ∈ tables_1, d.before a0 Z = true) (ws : List Jvm.Cond) (a1 a2 : Addr) (h0 : Heap) (n0 : Nat) (Z0 : n0 ≤ h0.size) :
    MetFree l (⟨"java/util/Objects", "requireNonNull", "(Ljava/lang/Object;Ljava/lang/String;)Ljava/lang/Object;"⟩ : MethodName) (head1 (Jvm.Cond.code (⟨"java/util/Objects", "requireNonNull", "(Ljava/lang/Object;Ljava/lang/String;)Ljava/lang/Object;"⟩ : MethodName) jdk_31_method_11_code 2 (some (.object "java/lang/Object")) :: ws) ({ frames := 0, cells := 0, slots := 0, locals := 0 } : Room)) (fun a U => a = #[(.ref a1), (.ref a2)] ∧ Z.Warmed39 U.vm ∧ U.heap = h0) (fun _ _ _ _ _ => True) (fun _ U o U' => ∃ v L, o = .returned v ∧ Q_rm3 Z a1 h0 n0 v U'.heap L ∧ FrameEnd U o U' L ({ frames := 0, cells := 0, slots := 0, locals := 0 } : Room).cells ({ frames := 0, cells := 0, slots := 0, locals := 0 } : Room).slots) := by
  refine MetFree.of_bodySF (plainFor_of_name pn_c0) hisR ?_
  intro p e s m args below meth c s₁ Bd hml0 hP hK
  obtain ⟨rfl, hZ, hh⟩ := hP
  have hx := Bd.exec
  have hby := Bd.bytes
  have hml : c.maxLocals = 2 := hml0
  have hown : s.vm.findClass "java/util/Objects" = some m.cls := findClass_of_methodNamed Bd.named
  have hnm := (name_of_methodNamed Bd.named Bd.method).1
  have X0 : Stand p l e ({ frames := 0, cells := 0, slots := 0, locals := 0 } : Room) s m #[(.ref a1), (.ref a2)] below meth c s₁ [] 0 0 := Stand.of_body Bd
  have e0 : s₁.heap = h0 := by rw [← hh, Bd.state]; rfl
  have N0 := Fr.nil n0
  have pre0 : ∀ t, Steps p.tables e below (s₁.setTop (mkF m 0 #[.val (.ref a1), .val (.ref a2)] [])) t → Steps p.tables e below (s₁.setTop (entryFrame m #[(.ref a1), (.ref a2)] 2)) t := fun t k => castTop (ef_rm3 m a1 a2) k
  have k1 : ∀ t, Steps p.tables e below (s₁.setTop (mkF m 14 #[.val (.ref a1), .val (.ref a2)] [(.ref a1)])) t → Steps p.tables e below (s₁.setTop (entryFrame m #[(.ref a1), (.ref a2)] 2)) t := fun t kt => pre0 t (by
      show Steps p.tables e below (s₁.setTop (mkF m 0 #[.val (.ref a1), .val (.ref a2)] [])) _
      refine XS.aloadN X0.here hx rfl (hb hby d3_0) rfl rfl ?_
      show Steps p.tables e below (s₁.setTop (mkF m 1 #[.val (.ref a1), .val (.ref a2)] [(.ref a1)])) _
      refine XS.ifnonnullYes X0.here hx rfl (pc0 := 1) (pc' := 13) rfl (hb hby d3_1) rfl (by decide) (by decide) ?_
      show Steps p.tables e below (s₁.setTop (mkF m 13 #[.val (.ref a1), .val (.ref a2)] [])) _
      refine XS.aloadN X0.here hx rfl (hb hby d3_13) rfl rfl ?_
      exact kt)
  obtain ⟨fs, hr, hrun, hended, hW, hsame⟩ := X0.leave (v := some (.ref a1)) (fun h => by rw [Bd.returns] at h; cases h)
  refine ⟨_, _, k1 _ ?_, hrun, hended, _, _, rfl, ?_, ⟨_, rfl⟩, hW, hsame.mono (by decide) (by decide)⟩
  · show Steps p.tables e below (s₁.setTop (mkF m 14 #[.val (.ref a1), .val (.ref a2)] [(.ref a1)])) _
    jvm_step X0.here [X0.here.top, hx, (hb hby d3_14), X0.method', Bd.returns, Value.isRef, FieldType.isReference]
    first | (intro acts; rw [hr _ acts rfl rfl rfl]) | rw [hr _ _ rfl rfl rfl]
    exact Steps.refl _
  · show Q_rm3 Z a1 h0 n0 _ s₁.heap _
    rw [e0]
    exact ⟨rfl, N0, rfl⟩
theorem d4_0 : decode jdk_42_method_55_code 0 = .ok (.aload_n 0, 1) := by decide +kernel
theorem d4_1 : decode jdk_42_method_55_code 1 = .ok (.getfield 9, 3) := by decide +kernel
theorem d4_4 : decode jdk_42_method_55_code 4 = .ok (.arraylength, 1) := by decide +kernel
theorem d4_5 : decode jdk_42_method_55_code 5 = .ok (.ifCond .ne 7, 3) := by decide +kernel
theorem d4_12 : decode jdk_42_method_55_code 12 = .ok (.iconst 0, 1) := by decide +kernel
theorem d4_13 : decode jdk_42_method_55_code 13 = .ok (.ireturn, 1) := by decide +kernel
theorem pn_c1 : plainName "java/lang/String" = true := by first | (simp [plainName, overriddenIn]; done) | decide +kernel
theorem ef_rm4 (m : MethodId) (x0 : Addr) : entryFrame m #[(.ref x0)] 1 = mkF m 0 #[.val (.ref x0)] [] := by first | (simp [entryFrame, mkF, argsToLocals, Value.category]; done) | rfl
def Q_rm4 (Z : State)  (h0 : Heap) (n0 : Nat) (v : Option Value) (h : Heap) (L : List Loc) : Prop := v = some (.int 0) ∧ Fr n0 L ∧ h = h0
set_option maxRecDepth 65536 in
set_option maxHeartbeats 40000000 in
theorem rm4 (l : Launch) (Z : State) (a0 : Array Value) (hw : ∀ d ∈ tables_1, d.before a0 Z = true) (ws : List Jvm.Cond) (a1 bs : Addr) (kb : ClassId) (vs : List Value) (h0 : Heap) (n0 : Nat) (Z0 : n0 ≤ h0.size) (FV : Fld Z h0 a1 "java/lang/String" "value" "[B" (.ref bs)) (VB : Arv Z h0 bs kb .byte (1 : Int32) vs (.int 0)) :
    MetFree l (⟨"java/lang/String", "isEmpty", "()Z"⟩ : MethodName) (head1 (Jvm.Cond.code (⟨"java/lang/String", "isEmpty", "()Z"⟩ : MethodName) jdk_42_method_55_code 1 (some .boolean) :: ws) ({ frames := 0, cells := 0, slots := 0, locals := 0 } : Room)) (fun a U => a = #[(.ref a1)] ∧ Z.Warmed39 U.vm ∧ U.heap = h0) (fun _ _ _ _ _ => True) (fun _ U o U' => ∃ v L, o = .returned v ∧ Q_rm4 Z  h0 n0 v U'.heap L ∧ FrameEnd U o U' L ({ frames := 0, cells := 0, slots := 0, locals := 0 } : Room).cells ({ frames := 0, cells := 0, slots := 0, locals := 0 } : Room).slots) := by
  refine MetFree.of_bodySF (plainFor_of_name pn_c1) hisR ?_
  intro p e s m args below meth c s₁ Bd hml0 hP hK
  obtain ⟨rfl, hZ, hh⟩ := hP
  have hx := Bd.exec
  have hby := Bd.bytes
  have hml : c.maxLocals = 1 := hml0
  have hown : s.vm.findClass "java/lang/String" = some m.cls := findClass_of_methodNamed Bd.named
  have hnm := (name_of_methodNamed Bd.named Bd.method).1
  have X0 : Stand p l e ({ frames := 0, cells := 0, slots := 0, locals := 0 } : Room) s m #[(.ref a1)] below meth c s₁ [] 0 0 := Stand.of_body Bd
  have e0 : s₁.heap = h0 := by rw [← hh, Bd.state]; rfl
  have N0 := Fr.nil n0
  have pre0 : ∀ t, Steps p.tables e below (s₁.setTop (mkF m 0 #[.val (.ref a1)] [])) t → Steps p.tables e below (s₁.setTop (entryFrame m #[(.ref a1)] 1)) t := fun t k => castTop (ef_rm4 m a1) k
  obtain ⟨T2, X2, e2, st2⟩ := getF X0 hx hZ hown (host := "") (Or.inl (hw _ (List.mem_of_getElem? (i := 27) rfl))) Via.refl e0 FV (g := (mkF m 1 #[.val (.ref a1)] [(.ref a1)])) rfl rfl (hb hby d4_1)
  obtain ⟨cl3, Ar3, q3, S3, M3, H3, G3⟩ := id VB
  have k4 : ∀ t, Steps p.tables e below (T2.setTop (mkF m 13 #[.val (.ref a1)] [(.int (0 : Int32))])) t → Steps p.tables e below (s₁.setTop (entryFrame m #[(.ref a1)] 1)) t := fun t kt => pre0 t (by
      show Steps p.tables e below (s₁.setTop (mkF m 0 #[.val (.ref a1)] [])) _
      refine XS.aloadN X0.here hx rfl (hb hby d4_0) rfl rfl ?_
      show Steps p.tables e below (s₁.setTop (mkF m 1 #[.val (.ref a1)] [(.ref a1)])) _
      refine st2 _ ?_
      show Steps p.tables e below (T2.setTop (mkF m 4 #[.val (.ref a1)] [(.ref bs)])) _
      refine X2.arraylength hx (by rw [e2]; exact Ar3.1) (State.isArrayOf_alike hZ.alike Ar3.2.1) (g := (mkF m 4 #[.val (.ref a1)] [(.ref bs)])) rfl rfl (hb hby d4_4) _ ?_
      rw [len_of S3 M3]
      show Steps p.tables e below (T2.setTop (mkF m 5 #[.val (.ref a1)] [(.int (1 : Int32))])) _
      refine XS.ifYes X2.here hx rfl (pc0 := 5) (pc' := 12) rfl (hb hby d4_5) rfl ((if0 _ _).trans (feq (by decide : ¬ ((1 : Int32) = (0 : Int32)))).2) (by decide) (by decide) ?_
      show Steps p.tables e below (T2.setTop (mkF m 12 #[.val (.ref a1)] [])) _
      refine XS.iconst X2.here hx rfl (hb hby d4_12) ?_
      exact kt)
  obtain ⟨fs, hr, hrun, hended, hW, hsame⟩ := X2.leave (v := some (.int (0 : Int32))) (fun h => by rw [Bd.returns] at h; cases h)
  refine ⟨_, _, k4 _ ?_, hrun, hended, _, _, rfl, ?_, ⟨_, rfl⟩, hW, hsame.mono (by decide) (by decide)⟩
  · show Steps p.tables e below (T2.setTop (mkF m 13 #[.val (.ref a1)] [(.int (0 : Int32))])) _
    exact retN X2 hx (t := .boolean) Bd.returns (by simp) (hb hby d4_13) hr
  · show Q_rm4 Z  h0 n0 _ T2.heap _
    rw [e2]
    exact ⟨rfl, N0, rfl⟩
theorem d14_0 : decode jdk_29_method_65_code 0 = .ok (.iload_n 0, 1) := by decide +kernel
theorem d14_1 : decode jdk_29_method_65_code 1 = .ok (.iload_n 1, 1) := by decide +kernel
theorem d14_2 : decode jdk_29_method_65_code 2 = .ok (.if_icmp .lt 7, 3) := by decide +kernel
theorem d14_9 : decode jdk_29_method_65_code 9 = .ok (.iload_n 1, 1) := by decide +kernel
theorem d14_5 : decode jdk_29_method_65_code 5 = .ok (.iload_n 0, 1) := by decide +kernel
theorem d14_6 : decode jdk_29_method_65_code 6 = .ok (.goto 4, 3) := by decide +kernel
theorem d14_10 : decode jdk_29_method_65_code 10 = .ok (.ireturn, 1) := by decide +kernel
theorem ef_rm14 (m : MethodId) (x0 : Int32) (x1 : Int32) : entryFrame m #[(.int x0), (.int x1)] 2 = mkF m 0 #[.val (.int x0), .val (.int x1)] [] := by first | (simp [entryFrame, mkF, argsToLocals, Value.category]; done) | rfl
def Q_rm14 (Z : State) (p1 p2 : Int32) (h0 : Heap) (n0 : Nat) (v : Option Value) (h : Heap) (L : List Loc) : Prop := v = some (.int (own_max p1 p2)) ∧ Fr n0 L ∧ h = h0
set_option maxRecDepth 65536 in
set_option maxHeartbeats 40000000 in
theorem rm14 (l : Launch) (Z : State) (a0 : Array Value) (hw : ∀ d ∈ tables_1, d.before a0 Z = true) (ws : List Jvm.Cond) (p1 p2 : Int32) (h0 : Heap) (n0 : Nat) (Z0 : n0 ≤ h0.size) :
    MetFree l (⟨"java/lang/Math", "max", "(II)I"⟩ : MethodName) (head1 (Jvm.Cond.code (⟨"java/lang/Math", "max", "(II)I"⟩ : MethodName) jdk_29_method_65_code 2 (some .int) :: ws) ({ frames := 0, cells := 0, slots := 0, locals := 0 } : Room)) (fun a U => a = #[(.int p1), (.int p2)] ∧ Z.Warmed39 U.vm ∧ U.heap = h0) (fun _ _ _ _ _ => True) (fun _ U o U' => ∃ v L, o = .returned v ∧ Q_rm14 Z p1 p2 h0 n0 v U'.heap L ∧ FrameEnd U o U' L ({ frames := 0, cells := 0, slots := 0, locals := 0 } : Room).cells ({ frames := 0, cells := 0, slots := 0, locals := 0 } : Room).slots) := by
  refine MetFree.of_bodySF (Jvm.Free.JP.mathPlain rfl (by decide +kernel)) hisR ?_
  intro p e s m args below meth c s₁ Bd hml0 hP hK
  obtain ⟨rfl, hZ, hh⟩ := hP
  have hx := Bd.exec
  have hby := Bd.bytes
  have hml : c.maxLocals = 2 := hml0
  have hown : s.vm.findClass "java/lang/Math" = some m.cls := findClass_of_methodNamed Bd.named
  have hnm := (name_of_methodNamed Bd.named Bd.method).1
  have X0 : Stand p l e ({ frames := 0, cells := 0, slots := 0, locals := 0 } : Room) s m #[(.int p1), (.int p2)] below meth c s₁ [] 0 0 := Stand.of_body Bd
  have e0 : s₁.heap = h0 := by rw [← hh, Bd.state]; rfl
  have N0 := Fr.nil n0
  have pre0 : ∀ t, Steps p.tables e below (s₁.setTop (mkF m 0 #[.val (.int p1), .val (.int p2)] [])) t → Steps p.tables e below (s₁.setTop (entryFrame m #[(.int p1), (.int p2)] 2)) t := fun t k => castTop (ef_rm14 m p1 p2) k
  have k5 : ∀ t, Steps p.tables e below (s₁.setTop (mkF m 2 #[.val (.int p1), .val (.int p2)] [(.int p2), (.int p1)])) t → Steps p.tables e below (s₁.setTop (entryFrame m #[(.int p1), (.int p2)] 2)) t := fun t kt => pre0 t (by
      show Steps p.tables e below (s₁.setTop (mkF m 0 #[.val (.int p1), .val (.int p2)] [])) _
      refine XS.iloadN X0.here hx rfl (hb hby d14_0) rfl ?_
      show Steps p.tables e below (s₁.setTop (mkF m 1 #[.val (.int p1), .val (.int p2)] [(.int p1)])) _
      refine XS.iloadN X0.here hx rfl (hb hby d14_1) rfl ?_
      exact kt)
  obtain ⟨v7, hv7⟩ : ∃ v : Int32, v = (if p1 < p2 then p2 else p1) := ⟨_, rfl⟩
  have k8 : ∀ t, Steps p.tables e below (s₁.setTop (mkF m 10 #[.val (.int p1), .val (.int p2)] [(.int v7)])) t → Steps p.tables e below (s₁.setTop (entryFrame m #[(.int p1), (.int p2)] 2)) t := by
    intro t kt
    by_cases hc2_6 : p1 < p2
    · rw [show v7 = p2 from (hv7.trans (if_pos hc2_6))] at kt
      exact k5 t (by
          show Steps p.tables e below (s₁.setTop (mkF m 2 #[.val (.int p1), .val (.int p2)] [(.int p2), (.int p1)])) _
          refine XS.icmpYes X0.here hx rfl (pc0 := 2) (pc' := 9) rfl (hb hby d14_2) rfl (tlt hc2_6).1 (by decide) (by decide) ?_
          show Steps p.tables e below (s₁.setTop (mkF m 9 #[.val (.int p1), .val (.int p2)] [])) _
          refine XS.iloadN X0.here hx rfl (hb hby d14_9) rfl ?_
          exact kt)
    · rw [show v7 = p1 from (hv7.trans (if_neg hc2_6))] at kt
      exact k5 t (by
          show Steps p.tables e below (s₁.setTop (mkF m 2 #[.val (.int p1), .val (.int p2)] [(.int p2), (.int p1)])) _
          refine XS.icmpNo X0.here hx rfl (hb hby d14_2) rfl (flt hc2_6).1 ?_
          show Steps p.tables e below (s₁.setTop (mkF m 5 #[.val (.int p1), .val (.int p2)] [])) _
          refine XS.iloadN X0.here hx rfl (hb hby d14_5) rfl ?_
          show Steps p.tables e below (s₁.setTop (mkF m 6 #[.val (.int p1), .val (.int p2)] [(.int p1)])) _
          refine XS.goto X0.here hx rfl (pc0 := 6) (pc' := 10) rfl (hb hby d14_6) (by decide) (by decide) ?_
          exact kt)
  obtain ⟨fs, hr, hrun, hended, hW, hsame⟩ := X0.leave (v := some (.int v7)) (fun h => by rw [Bd.returns] at h; cases h)
  refine ⟨_, _, k8 _ ?_, hrun, hended, _, _, rfl, ?_, ⟨_, rfl⟩, hW, hsame.mono (by decide) (by decide)⟩
  · show Steps p.tables e below (s₁.setTop (mkF m 10 #[.val (.int p1), .val (.int p2)] [(.int v7)])) _
    exact retI X0 hx Bd.returns (hb hby d14_10) hr
  · show Q_rm14 Z p1 p2 h0 n0 _ s₁.heap _
    rw [e0]
    exact ⟨by rw [hv7]; rfl, N0, rfl⟩
theorem d8_0 : decode jdk_22_method_1_code 0 = .ok (.aload_n 0, 1) := by decide +kernel
theorem d8_1 : decode jdk_22_method_1_code 1 = .ok (.invokespecial 1, 3) := by decide +kernel
theorem d8_4 : decode jdk_22_method_1_code 4 = .ok (.return_, 1) := by decide +kernel
theorem pn_c2 : plainName "java/util/AbstractCollection" = true := by first | (simp [plainName, overriddenIn]; done) | decide +kernel
theorem ef_rm8 (m : MethodId) (x0 : Addr) : entryFrame m #[(.ref x0)] 1 = mkF m 0 #[.val (.ref x0)] [] := by first | (simp [entryFrame, mkF, argsToLocals, Value.category]; done) | rfl
def Q_rm8 (Z : State)  (h0 : Heap) (n0 : Nat) (v : Option Value) (h : Heap) (L : List Loc) : Prop := v = none ∧ Fr n0 L ∧ h = h0
set_option maxRecDepth 65536 in
set_option maxHeartbeats 40000000 in
theorem rm8 (l : Launch) (Z : State) (a0 : Array Value) (hw : ∀ d ∈ tables_1, d.before a0 Z = true) (ws : List Jvm.Cond) (a1 : Addr) (h0 : Heap) (n0 : Nat) (Z0 : n0 ≤ h0.size) :
    MetFree l (⟨"java/util/AbstractCollection", "<init>", "()V"⟩ : MethodName) (head1 (Jvm.Cond.code (⟨"java/util/AbstractCollection", "<init>", "()V"⟩ : MethodName) jdk_22_method_1_code 1 none :: ws) ({ frames := 1, cells := 0, slots := 0, locals := 12 } : Room)) (fun a U => a = #[(.ref a1)] ∧ Z.Warmed39 U.vm ∧ U.heap = h0) (fun _ _ _ _ _ => True) (fun _ U o U' => ∃ v L, o = .returned v ∧ Q_rm8 Z  h0 n0 v U'.heap L ∧ FrameEnd U o U' L ({ frames := 1, cells := 0, slots := 0, locals := 12 } : Room).cells ({ frames := 1, cells := 0, slots := 0, locals := 12 } : Room).slots) := by
  refine MetFree.of_bodySF (plainFor_of_name pn_c2) hisR ?_
  intro p e s m args below meth c s₁ Bd hml0 hP hK
  obtain ⟨rfl, hZ, hh⟩ := hP
  have hx := Bd.exec
  have hby := Bd.bytes
  have hml : c.maxLocals = 1 := hml0
  have hown : s.vm.findClass "java/util/AbstractCollection" = some m.cls := findClass_of_methodNamed Bd.named
  have hnm := (name_of_methodNamed Bd.named Bd.method).1
  have X0 : Stand p l e ({ frames := 1, cells := 0, slots := 0, locals := 12 } : Room) s m #[(.ref a1)] below meth c s₁ [] 0 0 := Stand.of_body Bd
  have e0 : s₁.heap = h0 := by rw [← hh, Bd.state]; rfl
  have N0 := Fr.nil n0
  have pre0 : ∀ t, Steps p.tables e below (s₁.setTop (mkF m 0 #[.val (.ref a1)] [])) t → Steps p.tables e below (s₁.setTop (entryFrame m #[(.ref a1)] 1)) t := fun t k => castTop (ef_rm8 m a1) k
  obtain ⟨T9, X9, e9, st9⟩ := initO X0 hx hZ hown (hw _ (List.mem_of_getElem? (i := 61) rfl)) (hw _ (List.mem_of_getElem? (i := 15) rfl)) (hw _ (List.mem_of_getElem? (i := 16) rfl)) e0 (g := (mkF m 1 #[.val (.ref a1)] [(.ref a1)])) rfl (by rw [hml]; rfl) rfl (hb hby d8_1) (by decide) (W := 0) (by show 2 * 0 + _ ≤ _; exact Nat.le_of_eq rfl) (by decide)
  have k10 : ∀ t, Steps p.tables e below (T9.setTop (mkF m 4 #[.val (.ref a1)] [])) t → Steps p.tables e below (s₁.setTop (entryFrame m #[(.ref a1)] 1)) t := fun t kt => pre0 t (by
      show Steps p.tables e below (s₁.setTop (mkF m 0 #[.val (.ref a1)] [])) _
      refine XS.aloadN X0.here hx rfl (hb hby d8_0) rfl rfl ?_
      show Steps p.tables e below (s₁.setTop (mkF m 1 #[.val (.ref a1)] [(.ref a1)])) _
      refine st9 _ ?_
      exact kt)
  obtain ⟨fs, hr, hrun, hended, hW, hsame⟩ := X9.leave (v := none) (fun _ => rfl)
  refine ⟨_, _, k10 _ ?_, hrun, hended, _, _, rfl, ?_, ⟨_, rfl⟩, hW, hsame.mono (by decide) (by decide)⟩
  · show Steps p.tables e below (T9.setTop (mkF m 4 #[.val (.ref a1)] [])) _
    exact X9.returnOut hx Bd.returns (hb hby d8_4) hr
  · show Q_rm8 Z  h0 n0 _ T9.heap _
    rw [e9]
    exact ⟨rfl, N0, rfl⟩
theorem d7_0 : decode jdk_39_method_1_code 0 = .ok (.aload_n 0, 1) := by decide +kernel
theorem pd_0 : parseMethodDescriptor "()V" = some ⟨[], none⟩ := by decide +kernel
theorem d7_1 : decode jdk_39_method_1_code 1 = .ok (.invokespecial 1, 3) := by decide +kernel
theorem d7_4 : decode jdk_39_method_1_code 4 = .ok (.aload_n 0, 1) := by decide +kernel
theorem d7_5 : decode jdk_39_method_1_code 5 = .ok (.iconst 0, 1) := by decide +kernel
theorem d7_6 : decode jdk_39_method_1_code 6 = .ok (.putfield 7, 3) := by decide +kernel
theorem d7_9 : decode jdk_39_method_1_code 9 = .ok (.return_, 1) := by decide +kernel
theorem pn_c3 : plainName "java/util/AbstractList" = true := by first | (simp [plainName, overriddenIn]; done) | decide +kernel
theorem ef_rm7 (m : MethodId) (x0 : Addr) : entryFrame m #[(.ref x0)] 1 = mkF m 0 #[.val (.ref x0)] [] := by first | (simp [entryFrame, mkF, argsToLocals, Value.category]; done) | rfl
def Q_rm7 (Z : State) (a0x : Addr) (h0 : Heap) (n0 : Nat) (v : Option Value) (h : Heap) (L : List Loc) : Prop := v = none ∧ Fr n0 L ∧ Keep h0 h [a0x] ∧ Exa Z h a0x "java/util/ArrayList" ∧ Fld Z h a0x "java/util/AbstractList" "modCount" "I" (.int (0 : Int32)) ∧ Fld Z h a0x "java/util/ArrayList" "size" "I" (.int (0 : Int32)) ∧ Fld Z h a0x "java/util/ArrayList" "elementData" "[Ljava/lang/Object;" .null
set_option maxRecDepth 65536 in
set_option maxHeartbeats 40000000 in
theorem rm7 (l : Launch) (Z : State) (a0 : Array Value) (hw : ∀ d ∈ tables_1, d.before a0 Z = true) (ws : List Jvm.Cond) (a0x : Addr) (h0 : Heap) (n0 : Nat) (Z0 : n0 ≤ h0.size) (E_a : Exa Z h0 a0x "java/util/ArrayList") (g_a : n0 ≤ a0x) (F_modCount : Fld Z h0 a0x "java/util/AbstractList" "modCount" "I" (.int (0 : Int32))) (F_size : Fld Z h0 a0x "java/util/ArrayList" "size" "I" (.int (0 : Int32))) (F_elementData : Fld Z h0 a0x "java/util/ArrayList" "elementData" "[Ljava/lang/Object;" .null) :
    MetFree l (⟨"java/util/AbstractList", "<init>", "()V"⟩ : MethodName) (head1 (Jvm.Cond.code (⟨"java/util/AbstractList", "<init>", "()V"⟩ : MethodName) jdk_39_method_1_code 1 none :: ws) ({ frames := 2, cells := 0, slots := 0, locals := 24 } : Room)) (fun a U => a = #[(.ref a0x)] ∧ Z.Warmed39 U.vm ∧ U.heap = h0) (fun _ _ _ _ _ => True) (fun _ U o U' => ∃ v L, o = .returned v ∧ Q_rm7 Z a0x h0 n0 v U'.heap L ∧ FrameEnd U o U' L ({ frames := 2, cells := 0, slots := 0, locals := 24 } : Room).cells ({ frames := 2, cells := 0, slots := 0, locals := 24 } : Room).slots) := by
  refine MetFree.of_bodySF (plainFor_of_name pn_c3) hisR ?_
  intro p e s m args below meth c s₁ Bd hml0 hP hK
  obtain ⟨rfl, hZ, hh⟩ := hP
  have hx := Bd.exec
  have hby := Bd.bytes
  have hml : c.maxLocals = 1 := hml0
  have hown : s.vm.findClass "java/util/AbstractList" = some m.cls := findClass_of_methodNamed Bd.named
  have hnm := (name_of_methodNamed Bd.named Bd.method).1
  have X0 : Stand p l e ({ frames := 2, cells := 0, slots := 0, locals := 24 } : Room) s m #[(.ref a0x)] below meth c s₁ [] 0 0 := Stand.of_body Bd
  have e0 : s₁.heap = h0 := by rw [← hh, Bd.state]; rfl
  have N0 := Fr.nil n0
  have pre0 : ∀ t, Steps p.tables e below (s₁.setTop (mkF m 0 #[.val (.ref a0x)] [])) t → Steps p.tables e below (s₁.setTop (entryFrame m #[(.ref a0x)] 1)) t := fun t k => castTop (ef_rm7 m a0x) k
  obtain ⟨_, _, ⟨T11, L11, k11, n11⟩, -, X11, ⟨Lc11, hQ11, l11, y11, z11⟩, st11⟩ := X0.specialBack hx (y := (⟨"java/util/AbstractCollection", "<init>", "()V"⟩ : MethodName)) rfl hown (mvT hZ (hw _ (List.mem_of_getElem? (i := 55) rfl))) (mvT hZ (hw _ (List.mem_of_getElem? (i := 56) rfl))) (mvT hZ (hw _ (List.mem_of_getElem? (i := 60) rfl))) (by decide) (backOf (W := 0) (rm8 l Z a0 hw [] a0x h0 n0 Z0) hZ (hw _ (List.mem_of_getElem? (i := 60) rfl)) (hw _ (List.mem_of_getElem? (i := 59) rfl)) (by decide) (by decide)) (g := (mkF m 1 #[.val (.ref a0x)] [(.ref a0x)])) rfl (by rw [hml]; rfl) (Steps.refl _) (a := a0x) (argsL := []) (rest := []) (lenOf pd_0 rfl) rfl (by show 2 * 0 + _ ≤ _; exact Nat.le_of_eq rfl) (hb hby d7_1) (fun _ _ => ⟨rfl, e0, (by decide : 0 + 0 ≤ _), (by decide : 0 + 0 ≤ _)⟩)
  dsimp only [Pt.U, Pt.locs, Pt.cells, Pt.slots] at X11 l11 y11 z11 st11 hQ11
  subst l11 y11 z11
  obtain ⟨rfl, N11q, e11⟩ := hQ11
  have N11 := Fr.app N0 N11q
  obtain ⟨T12, h12, X12, e12, W12, st12⟩ := putF X11 hx hZ hown (host := "") (Or.inl (hw _ (List.mem_of_getElem? (i := 62) rfl))) Via.refl e11 F_modCount E_a (Or.inl (hw _ (List.mem_of_getElem? (i := 63) rfl))) (hw _ (List.mem_of_getElem? (i := 44) rfl)) (ty := .int) (by decide) rfl rfl (g := (mkF m 6 #[.val (.ref a0x)] [(.int (0 : Int32)), (.ref a0x)])) rfl rfl (hb hby d7_6)
  have Fw12 := F_modCount.same W12
  have E_a'13 := E_a.wr W12
  have F_size'14 := F_size.other W12 (Or.inr (slot_ne (Or.inl (hw _ (List.mem_of_getElem? (i := 101) rfl))) (Or.inl (hw _ (List.mem_of_getElem? (i := 63) rfl))) (by decide) (t := .int) (t' := .int) (by decide) (by decide)))
  have F_elementData'15 := F_elementData.other W12 (Or.inr (slot_ne (Or.inl (hw _ (List.mem_of_getElem? (i := 66) rfl))) (Or.inl (hw _ (List.mem_of_getElem? (i := 63) rfl))) (by decide) (t := (.array (.object "java/lang/Object"))) (t' := .int) (by decide) (by decide)))
  have Z_16 : n0 ≤ h12.size := Nat.le_trans Z0 (Nat.le_of_eq (Wr.size W12).symm)
  have N12 := Fr.snoc X12 N11 g_a
  have K12 : Keep h0 h12 [a0x] := (Keep.refl h0 [a0x]).wr W12 (Or.inl (List.mem_of_getElem? (i := 0) rfl))
  have k17 : ∀ t, Steps p.tables e below (T12.setTop (mkF m 9 #[.val (.ref a0x)] [])) t → Steps p.tables e below (s₁.setTop (entryFrame m #[(.ref a0x)] 1)) t := fun t kt => pre0 t (by
      show Steps p.tables e below (s₁.setTop (mkF m 0 #[.val (.ref a0x)] [])) _
      refine XS.aloadN X0.here hx rfl (hb hby d7_0) rfl rfl ?_
      show Steps p.tables e below (s₁.setTop (mkF m 1 #[.val (.ref a0x)] [(.ref a0x)])) _
      refine st11.trans ?_
      show Steps p.tables e below (T11.setTop (mkF m 4 #[.val (.ref a0x)] [])) _
      refine XS.aloadN X11.here hx rfl (hb hby d7_4) rfl rfl ?_
      show Steps p.tables e below (T11.setTop (mkF m 5 #[.val (.ref a0x)] [(.ref a0x)])) _
      refine XS.iconst X11.here hx rfl (hb hby d7_5) ?_
      show Steps p.tables e below (T11.setTop (mkF m 6 #[.val (.ref a0x)] [(.int (0 : Int32)), (.ref a0x)])) _
      refine st12 _ ?_
      exact kt)
  obtain ⟨fs, hr, hrun, hended, hW, hsame⟩ := X12.leave (v := none) (fun _ => rfl)
  refine ⟨_, _, k17 _ ?_, hrun, hended, _, _, rfl, ?_, ⟨_, rfl⟩, hW, hsame.mono (by decide) (by decide)⟩
  · show Steps p.tables e below (T12.setTop (mkF m 9 #[.val (.ref a0x)] [])) _
    exact X12.returnOut hx Bd.returns (hb hby d7_9) hr
  · show Q_rm7 Z a0x h0 n0 _ T12.heap _
    rw [e12]
    exact ⟨rfl, N12, K12, E_a'13, Fw12, F_size'14, F_elementData'15⟩
theorem d6_0 : decode jdk_38_method_2_code 0 = .ok (.aload_n 0, 1) := by decide +kernel
theorem d6_1 : decode jdk_38_method_2_code 1 = .ok (.invokespecial 1, 3) := by decide +kernel
theorem d6_4 : decode jdk_38_method_2_code 4 = .ok (.aload_n 0, 1) := by decide +kernel
theorem d6_5 : decode jdk_38_method_2_code 5 = .ok (.getstatic 39, 3) := by decide +kernel
theorem d6_8 : decode jdk_38_method_2_code 8 = .ok (.putfield 9, 3) := by decide +kernel
theorem d6_11 : decode jdk_38_method_2_code 11 = .ok (.return_, 1) := by decide +kernel
theorem pn_c4 : plainName "java/util/ArrayList" = true := by first | (simp [plainName, overriddenIn]; done) | decide +kernel
theorem ef_rm6 (m : MethodId) (x0 : Addr) : entryFrame m #[(.ref x0)] 1 = mkF m 0 #[.val (.ref x0)] [] := by first | (simp [entryFrame, mkF, argsToLocals, Value.category]; done) | rfl
def Q_rm6 (Z : State) (a0x : Addr) (dfl : Addr) (h0 : Heap) (n0 : Nat) (v : Option Value) (h : Heap) (L : List Loc) : Prop := v = none ∧ Fr n0 L ∧ Keep h0 h [a0x] ∧ Exa Z h a0x "java/util/ArrayList" ∧ Fld Z h a0x "java/util/AbstractList" "modCount" "I" (.int (0 : Int32)) ∧ Fld Z h a0x "java/util/ArrayList" "size" "I" (.int (0 : Int32)) ∧ Fld Z h a0x "java/util/ArrayList" "elementData" "[Ljava/lang/Object;" (.ref dfl)
set_option maxRecDepth 65536 in
set_option maxHeartbeats 40000000 in
theorem rm6 (l : Launch) (Z : State) (a0 : Array Value) (hw : ∀ d ∈ tables_1, d.before a0 Z = true) (ws : List Jvm.Cond) (a0x : Addr) (dfl : Addr) (cd : Cell) (h0 : Heap) (n0 : Nat) (Z0 : n0 ≤ h0.size) (E_a : Exa Z h0 a0x "java/util/ArrayList") (g_a : n0 ≤ a0x) (F_modCount : Fld Z h0 a0x "java/util/AbstractList" "modCount" "I" (.int (0 : Int32))) (F_size : Fld Z h0 a0x "java/util/ArrayList" "size" "I" (.int (0 : Int32))) (F_elementData : Fld Z h0 a0x "java/util/ArrayList" "elementData" "[Ljava/lang/Object;" .null) (O0 : Old Z n0 h0) (SD : Sta Z Z.heap "java/util/ArrayList" "DEFAULTCAPACITY_EMPTY_ELEMENTDATA" "[Ljava/lang/Object;" (.ref dfl)) (DA : Arr Z Z.heap dfl cd (.object "java/lang/Object")) (DS : cd.slots.size = (0 : Int32).toNatClampNeg) :
    MetFree l (⟨"java/util/ArrayList", "<init>", "()V"⟩ : MethodName) (head1 (Jvm.Cond.code (⟨"java/util/ArrayList", "<init>", "()V"⟩ : MethodName) jdk_38_method_2_code 1 none :: ws) ({ frames := 3, cells := 0, slots := 0, locals := 36 } : Room)) (fun a U => a = #[(.ref a0x)] ∧ Z.Warmed39 U.vm ∧ U.heap = h0) (fun _ _ _ _ _ => True) (fun _ U o U' => ∃ v L, o = .returned v ∧ Q_rm6 Z a0x dfl h0 n0 v U'.heap L ∧ FrameEnd U o U' L ({ frames := 3, cells := 0, slots := 0, locals := 36 } : Room).cells ({ frames := 3, cells := 0, slots := 0, locals := 36 } : Room).slots) := by
  refine MetFree.of_bodySF (plainFor_of_name pn_c4) hisR ?_
  intro p e s m args below meth c s₁ Bd hml0 hP hK
  obtain ⟨rfl, hZ, hh⟩ := hP
  have hx := Bd.exec
  have hby := Bd.bytes
  have hml : c.maxLocals = 1 := hml0
  have hown : s.vm.findClass "java/util/ArrayList" = some m.cls := findClass_of_methodNamed Bd.named
  have hnm := (name_of_methodNamed Bd.named Bd.method).1
  have X0 : Stand p l e ({ frames := 3, cells := 0, slots := 0, locals := 36 } : Room) s m #[(.ref a0x)] below meth c s₁ [] 0 0 := Stand.of_body Bd
  have e0 : s₁.heap = h0 := by rw [← hh, Bd.state]; rfl
  have N0 := Fr.nil n0
  have pre0 : ∀ t, Steps p.tables e below (s₁.setTop (mkF m 0 #[.val (.ref a0x)] [])) t → Steps p.tables e below (s₁.setTop (entryFrame m #[(.ref a0x)] 1)) t := fun t k => castTop (ef_rm6 m a0x) k
  obtain ⟨_, _, ⟨T18, L18, k18, n18⟩, -, X18, ⟨Lc18, hQ18, l18, y18, z18⟩, st18⟩ := X0.specialBack hx (y := (⟨"java/util/AbstractList", "<init>", "()V"⟩ : MethodName)) rfl hown (mvT hZ (hw _ (List.mem_of_getElem? (i := 49) rfl))) (mvT hZ (hw _ (List.mem_of_getElem? (i := 50) rfl))) (mvT hZ (hw _ (List.mem_of_getElem? (i := 54) rfl))) (by decide) (backOf (W := 0) (rm7 l Z a0 hw [] a0x h0 n0 Z0 E_a g_a F_modCount F_size F_elementData) hZ (hw _ (List.mem_of_getElem? (i := 54) rfl)) (hw _ (List.mem_of_getElem? (i := 53) rfl)) (by decide) (by decide)) (g := (mkF m 1 #[.val (.ref a0x)] [(.ref a0x)])) rfl (by rw [hml]; rfl) (Steps.refl _) (a := a0x) (argsL := []) (rest := []) (lenOf pd_0 rfl) rfl (by show 2 * 0 + _ ≤ _; exact Nat.le_of_eq rfl) (hb hby d6_1) (fun _ _ => ⟨rfl, e0, (by decide : 0 + 0 ≤ _), (by decide : 0 + 0 ≤ _)⟩)
  dsimp only [Pt.U, Pt.locs, Pt.cells, Pt.slots] at X18 l18 y18 z18 st18 hQ18
  subst l18 y18 z18
  obtain ⟨rfl, N18q, Kq18, Eq18, Fq18_modCount, Fq18_size, Fq18_elementData⟩ := hQ18
  have N18 := Fr.app N0 N18q
  have Z_19 : n0 ≤ T18.heap.size := Nat.le_trans Z0 Kq18.1
  have K18 : Keep h0 T18.heap [a0x] := Keep.trans (Keep.refl h0 [a0x]) Kq18 (allS (Or.inl (List.mem_of_getElem? (i := 0) rfl)) all0)
  have E_a'20 := E_a.keep Kq18
  have O0'21 := O0.keep Kq18 (allS g_a all0)
  obtain ⟨T22, X22, e22, st22⟩ := getS2 X18 hx hZ hown (host := "") (Or.inl (hw _ (List.mem_of_getElem? (i := 64) rfl))) Via.refl rfl (Sta.ext O0'21.2 SD) (g := (mkF m 5 #[.val (.ref a0x)] [(.ref a0x)])) rfl (hb hby d6_5)
  obtain ⟨T23, h23, X23, e23, W23, st23⟩ := putF X22 hx hZ hown (host := "") (Or.inl (hw _ (List.mem_of_getElem? (i := 65) rfl))) Via.refl e22 Fq18_elementData Eq18 (Or.inl (hw _ (List.mem_of_getElem? (i := 66) rfl))) (hw _ (List.mem_of_getElem? (i := 44) rfl)) (ty := (.array (.object "java/lang/Object"))) (by decide) rfl rfl (g := (mkF m 8 #[.val (.ref a0x)] [(.ref dfl), (.ref a0x)])) rfl rfl (hb hby d6_8)
  have Fw23 := Fq18_elementData.same W23
  have Eq18'24 := Eq18.wr W23
  have O0'25 := O0'21.wr W23 g_a
  have Fq18_modCount'26 := Fq18_modCount.other W23 (Or.inr (slot_ne (Or.inl (hw _ (List.mem_of_getElem? (i := 63) rfl))) (Or.inl (hw _ (List.mem_of_getElem? (i := 66) rfl))) (by decide) (t := .int) (t' := (.array (.object "java/lang/Object"))) (by decide) (by decide)))
  have Fq18_size'27 := Fq18_size.other W23 (Or.inr (slot_ne (Or.inl (hw _ (List.mem_of_getElem? (i := 101) rfl))) (Or.inl (hw _ (List.mem_of_getElem? (i := 66) rfl))) (by decide) (t := .int) (t' := (.array (.object "java/lang/Object"))) (by decide) (by decide)))
  have Z_28 : n0 ≤ h23.size := Nat.le_trans Z_19 (Nat.le_of_eq (Wr.size W23).symm)
  have N23 := Fr.snoc X23 N18 g_a
  have K23 : Keep h0 h23 [a0x] := K18.wr W23 (Or.inl (List.mem_of_getElem? (i := 0) rfl))
  have k29 : ∀ t, Steps p.tables e below (T23.setTop (mkF m 11 #[.val (.ref a0x)] [])) t → Steps p.tables e below (s₁.setTop (entryFrame m #[(.ref a0x)] 1)) t := fun t kt => pre0 t (by
      show Steps p.tables e below (s₁.setTop (mkF m 0 #[.val (.ref a0x)] [])) _
      refine XS.aloadN X0.here hx rfl (hb hby d6_0) rfl rfl ?_
      show Steps p.tables e below (s₁.setTop (mkF m 1 #[.val (.ref a0x)] [(.ref a0x)])) _
      refine st18.trans ?_
      show Steps p.tables e below (T18.setTop (mkF m 4 #[.val (.ref a0x)] [])) _
      refine XS.aloadN X18.here hx rfl (hb hby d6_4) rfl rfl ?_
      show Steps p.tables e below (T18.setTop (mkF m 5 #[.val (.ref a0x)] [(.ref a0x)])) _
      refine st22 _ ?_
      show Steps p.tables e below (T22.setTop (mkF m 8 #[.val (.ref a0x)] [(.ref dfl), (.ref a0x)])) _
      refine st23 _ ?_
      exact kt)
  obtain ⟨fs, hr, hrun, hended, hW, hsame⟩ := X23.leave (v := none) (fun _ => rfl)
  refine ⟨_, _, k29 _ ?_, hrun, hended, _, _, rfl, ?_, ⟨_, rfl⟩, hW, hsame.mono (by decide) (by decide)⟩
  · show Steps p.tables e below (T23.setTop (mkF m 11 #[.val (.ref a0x)] [])) _
    exact X23.returnOut hx Bd.returns (hb hby d6_11) hr
  · show Q_rm6 Z a0x dfl h0 n0 _ T23.heap _
    rw [e23]
    exact ⟨rfl, N23, K23, Eq18'24, Fq18_modCount'26, Fq18_size'27, Fw23⟩
theorem d5_0 : decode prog_95_method_1_code 0 = .ok (.aload_n 0, 1) := by decide +kernel
theorem d5_1 : decode prog_95_method_1_code 1 = .ok (.invokespecial 1, 3) := by decide +kernel
theorem d5_4 : decode prog_95_method_1_code 4 = .ok (.aload_n 0, 1) := by decide +kernel
theorem d5_5 : decode prog_95_method_1_code 5 = .ok (.new 7, 3) := by decide +kernel
theorem d5_8 : decode prog_95_method_1_code 8 = .ok (.dup, 1) := by decide +kernel
theorem d5_9 : decode prog_95_method_1_code 9 = .ok (.invokespecial 9, 3) := by decide +kernel
theorem d5_12 : decode prog_95_method_1_code 12 = .ok (.putfield 10, 3) := by decide +kernel
theorem d5_15 : decode prog_95_method_1_code 15 = .ok (.aload_n 0, 1) := by decide +kernel
theorem d5_16 : decode prog_95_method_1_code 16 = .ok (.new 7, 3) := by decide +kernel
theorem d5_19 : decode prog_95_method_1_code 19 = .ok (.dup, 1) := by decide +kernel
theorem d5_20 : decode prog_95_method_1_code 20 = .ok (.invokespecial 9, 3) := by decide +kernel
theorem d5_23 : decode prog_95_method_1_code 23 = .ok (.putfield 16, 3) := by decide +kernel
theorem d5_26 : decode prog_95_method_1_code 26 = .ok (.aload_n 0, 1) := by decide +kernel
theorem d5_27 : decode prog_95_method_1_code 27 = .ok (.aload_n 1, 1) := by decide +kernel
theorem d5_28 : decode prog_95_method_1_code 28 = .ok (.putfield 19, 3) := by decide +kernel
theorem d5_31 : decode prog_95_method_1_code 31 = .ok (.aload_n 0, 1) := by decide +kernel
theorem d5_32 : decode prog_95_method_1_code 32 = .ok (.aload_n 2, 1) := by decide +kernel
theorem d5_33 : decode prog_95_method_1_code 33 = .ok (.putfield 23, 3) := by decide +kernel
theorem d5_36 : decode prog_95_method_1_code 36 = .ok (.return_, 1) := by decide +kernel
theorem pn_c5 : plainName "com/example/arthurs_seat/arthursseat/language/Junction" = true := by first | (simp [plainName, overriddenIn]; done) | decide +kernel
theorem ef_rm5 (m : MethodId) (x0 : Addr) (x1 : Addr) (x2 : Addr) : entryFrame m #[(.ref x0), (.ref x1), (.ref x2)] 3 = mkF m 0 #[.val (.ref x0), .val (.ref x1), .val (.ref x2)] [] := by first | (simp [entryFrame, mkF, argsToLocals, Value.category]; done) | rfl
def Q_rm5 (Z : State) (a0x dfl : Addr) (h0 : Heap) (n0 : Nat) (v : Option Value) (h : Heap) (L : List Loc) : Prop := v = none ∧ Fr n0 L ∧ Keep h0 h [a0x] ∧ Exa Z h a0x "com/example/arthurs_seat/arthursseat/language/Junction" ∧ Fld Z h a0x "com/example/arthurs_seat/arthursseat/language/Junction" "fed" "Z" (.int (0 : Int32)) ∧ Fld Z h a0x "com/example/arthurs_seat/arthursseat/language/Junction" "upstream" "Lcom/example/arthurs_seat/arthursseat/language/Junction;" .null ∧ Fld Z h a0x "com/example/arthurs_seat/arthursseat/language/Junction" "source" "Lcom/example/arthurs_seat/arthursseat/model/ConnectionSource;" .null ∧ ∃ dl : Addr, h0.size ≤ dl ∧ n0 ≤ dl ∧ Fld Z h a0x "com/example/arthurs_seat/arthursseat/language/Junction" "downstream" "Ljava/util/List;" (.ref dl) ∧ Exa Z h dl "java/util/ArrayList" ∧ Fld Z h dl "java/util/AbstractList" "modCount" "I" (.int (0 : Int32)) ∧ Fld Z h dl "java/util/ArrayList" "size" "I" (.int (0 : Int32)) ∧ Fld Z h dl "java/util/ArrayList" "elementData" "[Ljava/lang/Object;" (.ref dfl)
set_option maxRecDepth 65536 in
set_option maxHeartbeats 40000000 in
theorem rm5 (l : Launch) (Z : State) (a0 : Array Value) (hw : ∀ d ∈ tables_1, d.before a0 Z = true) (ws : List Jvm.Cond) (a0x a1 a2 dfl : Addr) (cd : Cell) (h0 : Heap) (n0 : Nat) (Z0 : n0 ≤ h0.size) (E_a : Exa Z h0 a0x "com/example/arthurs_seat/arthursseat/language/Junction") (g_a : n0 ≤ a0x) (F_targets : Fld Z h0 a0x "com/example/arthurs_seat/arthursseat/language/Junction" "targets" "Ljava/util/List;" .null) (F_downstream : Fld Z h0 a0x "com/example/arthurs_seat/arthursseat/language/Junction" "downstream" "Ljava/util/List;" .null) (F_name : Fld Z h0 a0x "com/example/arthurs_seat/arthursseat/language/Junction" "name" "Ljava/lang/String;" .null) (F_location : Fld Z h0 a0x "com/example/arthurs_seat/arthursseat/language/Junction" "location" "Lcom/example/arthurs_seat/arthursseat/language/SourceLocation;" .null) (F_fed : Fld Z h0 a0x "com/example/arthurs_seat/arthursseat/language/Junction" "fed" "Z" (.int (0 : Int32))) (F_upstream : Fld Z h0 a0x "com/example/arthurs_seat/arthursseat/language/Junction" "upstream" "Lcom/example/arthurs_seat/arthursseat/language/Junction;" .null) (F_source : Fld Z h0 a0x "com/example/arthurs_seat/arthursseat/language/Junction" "source" "Lcom/example/arthurs_seat/arthursseat/model/ConnectionSource;" .null) (O0 : Old Z n0 h0) (SD : Sta Z Z.heap "java/util/ArrayList" "DEFAULTCAPACITY_EMPTY_ELEMENTDATA" "[Ljava/lang/Object;" (.ref dfl)) (DA : Arr Z Z.heap dfl cd (.object "java/lang/Object")) (DS : cd.slots.size = (0 : Int32).toNatClampNeg) :
    MetFree l (⟨"com/example/arthurs_seat/arthursseat/language/Junction", "<init>", "(Ljava/lang/String;Lcom/example/arthurs_seat/arthursseat/language/SourceLocation;)V"⟩ : MethodName) (head1 (Jvm.Cond.code (⟨"com/example/arthurs_seat/arthursseat/language/Junction", "<init>", "(Ljava/lang/String;Lcom/example/arthurs_seat/arthursseat/language/SourceLocation;)V"⟩ : MethodName) prog_95_method_1_code 3 none :: ws) ({ frames := 4, cells := 2, slots := 6, locals := 50 } : Room)) (fun a U => a = #[(.ref a0x), (.ref a1), (.ref a2)] ∧ Z.Warmed39 U.vm ∧ U.heap = h0) (fun _ _ _ _ _ => True) (fun _ U o U' => ∃ v L, o = .returned v ∧ Q_rm5 Z a0x dfl h0 n0 v U'.heap L ∧ FrameEnd U o U' L ({ frames := 4, cells := 2, slots := 6, locals := 50 } : Room).cells ({ frames := 4, cells := 2, slots := 6, locals := 50 } : Room).slots) := by
  refine MetFree.of_bodySF (plainFor_of_name pn_c5) hisR ?_
  intro p e s m args below meth c s₁ Bd hml0 hP hK
  obtain ⟨rfl, hZ, hh⟩ := hP
  have hx := Bd.exec
  have hby := Bd.bytes
  have hml : c.maxLocals = 3 := hml0
  have hown : s.vm.findClass "com/example/arthurs_seat/arthursseat/language/Junction" = some m.cls := findClass_of_methodNamed Bd.named
  have hnm := (name_of_methodNamed Bd.named Bd.method).1
  have X0 : Stand p l e ({ frames := 4, cells := 2, slots := 6, locals := 50 } : Room) s m #[(.ref a0x), (.ref a1), (.ref a2)] below meth c s₁ [] 0 0 := Stand.of_body Bd
  have e0 : s₁.heap = h0 := by rw [← hh, Bd.state]; rfl
  have N0 := Fr.nil n0
  have pre0 : ∀ t, Steps p.tables e below (s₁.setTop (mkF m 0 #[.val (.ref a0x), .val (.ref a1), .val (.ref a2)] [])) t → Steps p.tables e below (s₁.setTop (entryFrame m #[(.ref a0x), (.ref a1), (.ref a2)] 3)) t := fun t k => castTop (ef_rm5 m a0x a1 a2) k
  obtain ⟨T30, X30, e30, st30⟩ := initO X0 hx hZ hown (hw _ (List.mem_of_getElem? (i := 42) rfl)) (hw _ (List.mem_of_getElem? (i := 15) rfl)) (hw _ (List.mem_of_getElem? (i := 16) rfl)) e0 (g := (mkF m 1 #[.val (.ref a0x), .val (.ref a1), .val (.ref a2)] [(.ref a0x)])) rfl (by rw [hml]; rfl) rfl (hb hby d5_1) (by decide) (W := 0) (by show 2 * 0 + _ ≤ _; exact Nat.le_of_eq rfl) (by decide)
  obtain ⟨T31, h31, X31, e31, E31, A31, D31, -, st31⟩ := newO X30 hx hZ hown (hw _ (List.mem_of_getElem? (i := 43) rfl)) (hw _ (List.mem_of_getElem? (i := 44) rfl)) (hw _ (List.mem_of_getElem? (i := 45) rfl)) e30 (g := (mkF m 5 #[.val (.ref a0x), .val (.ref a1), .val (.ref a2)] [(.ref a0x)])) rfl (hb hby d5_5) (by decide) (by decide)
  obtain ⟨b31, g31⟩ : ∃ z, z = h0.size := ⟨_, rfl⟩
  rw [← g31] at A31 D31 st31
  have ne_a0x_b31 : a0x ≠ b31 := Nat.ne_of_lt (Nat.lt_of_lt_of_le E_a.lt (Nat.le_of_eq g31.symm))
  have g_b31 : n0 ≤ b31 := Nat.le_trans Z0 (Nat.le_of_eq g31.symm)
  have sz_b31 : h0.size ≤ b31 := Nat.le_trans (Keep.refl h0 [a0x]).1 (Nat.le_of_eq g31.symm)
  have E_a'32 := E_a.ext E31
  have F_targets'33 := F_targets.ext E31
  have F_downstream'34 := F_downstream.ext E31
  have F_name'35 := F_name.ext E31
  have F_location'36 := F_location.ext E31
  have F_fed'37 := F_fed.ext E31
  have F_upstream'38 := F_upstream.ext E31
  have F_source'39 := F_source.ext E31
  have O0'40 := O0.ext E31
  have Z_41 : n0 ≤ h31.size := Nat.le_trans Z0 E31.1
  have K31 : Keep h0 h31 [a0x] := (Keep.refl h0 [a0x]).ext E31
  have F_modCount_b31 : Fld Z h31 b31 "java/util/AbstractList" "modCount" "I" (.int (0 : Int32)) := D31 (Or.inl (hw _ (List.mem_of_getElem? (i := 63) rfl))) (ty := .int) (by decide)
  have F_elementData_b31 : Fld Z h31 b31 "java/util/ArrayList" "elementData" "[Ljava/lang/Object;" .null := D31 (Or.inl (hw _ (List.mem_of_getElem? (i := 66) rfl))) (ty := (.array (.object "java/lang/Object"))) (by decide)
  have F_size_b31 : Fld Z h31 b31 "java/util/ArrayList" "size" "I" (.int (0 : Int32)) := D31 (Or.inl (hw _ (List.mem_of_getElem? (i := 101) rfl))) (ty := .int) (by decide)
  obtain ⟨_, _, ⟨T42, L42, k42, n42⟩, -, X42, ⟨Lc42, hQ42, l42, y42, z42⟩, st42⟩ := X31.specialBack hx (y := (⟨"java/util/ArrayList", "<init>", "()V"⟩ : MethodName)) rfl hown (mvT hZ (hw _ (List.mem_of_getElem? (i := 46) rfl))) (mvT hZ (hw _ (List.mem_of_getElem? (i := 47) rfl))) (mvT hZ (hw _ (List.mem_of_getElem? (i := 48) rfl))) (by decide) (backOf (W := 2) (rm6 l Z a0 hw [] b31 dfl cd h31 n0 Z_41 A31 g_b31 F_modCount_b31 F_size_b31 F_elementData_b31 O0'40 SD DA DS) hZ (hw _ (List.mem_of_getElem? (i := 48) rfl)) (hw _ (List.mem_of_getElem? (i := 45) rfl)) (by decide) (by decide)) (g := (mkF m 9 #[.val (.ref a0x), .val (.ref a1), .val (.ref a2)] [(.ref b31), (.ref b31), (.ref a0x)])) rfl (by rw [hml]; rfl) (Steps.refl _) (a := b31) (argsL := []) (rest := [(.ref b31), (.ref a0x)]) (lenOf pd_0 rfl) rfl (by show 2 * 0 + _ ≤ _; exact Nat.le_of_eq rfl) (hb hby d5_9) (fun _ _ => ⟨rfl, e31, (by decide : 1 + 0 ≤ _), (by decide : 3 + 0 ≤ _)⟩)
  dsimp only [Pt.U, Pt.locs, Pt.cells, Pt.slots] at X42 l42 y42 z42 st42 hQ42
  subst l42 y42 z42
  obtain ⟨rfl, N42q, Kq42, Eq42, Fq42_modCount, Fq42_size, Fq42_elementData⟩ := hQ42
  have N42 := Fr.app N0 N42q
  have Z_43 : n0 ≤ T42.heap.size := Nat.le_trans Z_41 Kq42.1
  have K42 : Keep h0 T42.heap [a0x] := Keep.trans K31 Kq42 (allS (Or.inr sz_b31) all0)
  have E_a'44 := E_a'32.keep Kq42
  have F_targets'45 := F_targets'33.keep Kq42 (ninS ne_a0x_b31 nin0)
  have F_downstream'46 := F_downstream'34.keep Kq42 (ninS ne_a0x_b31 nin0)
  have F_name'47 := F_name'35.keep Kq42 (ninS ne_a0x_b31 nin0)
  have F_location'48 := F_location'36.keep Kq42 (ninS ne_a0x_b31 nin0)
  have F_fed'49 := F_fed'37.keep Kq42 (ninS ne_a0x_b31 nin0)
  have F_upstream'50 := F_upstream'38.keep Kq42 (ninS ne_a0x_b31 nin0)
  have F_source'51 := F_source'39.keep Kq42 (ninS ne_a0x_b31 nin0)
  have O0'52 := O0'40.keep Kq42 (allS g_b31 all0)
  have A31'53 := A31.keep Kq42
  obtain ⟨T54, h54, X54, e54, W54, st54⟩ := putF X42 hx hZ hown (host := "") (Or.inl (hw _ (List.mem_of_getElem? (i := 67) rfl))) Via.refl rfl F_targets'45 E_a'44 (Or.inr ⟨(hw _ (List.mem_of_getElem? (i := 68) rfl)), rfl, hnm⟩) (hw _ (List.mem_of_getElem? (i := 36) rfl)) (ty := (.object "java/util/List")) (by decide) rfl rfl (g := (mkF m 12 #[.val (.ref a0x), .val (.ref a1), .val (.ref a2)] [(.ref b31), (.ref a0x)])) rfl rfl (hb hby d5_12)
  have Fw54 := F_targets'45.same W54
  have E_a'55 := E_a'44.wr W54
  have F_downstream'56 := F_downstream'46.other W54 (Or.inr (slot_ne (Or.inr (hw _ (List.mem_of_getElem? (i := 70) rfl))) (Or.inr (hw _ (List.mem_of_getElem? (i := 68) rfl))) (by decide) (t := (.object "java/util/List")) (t' := (.object "java/util/List")) (by decide) (by decide)))
  have F_name'57 := F_name'47.other W54 (Or.inr (slot_ne (Or.inr (hw _ (List.mem_of_getElem? (i := 72) rfl))) (Or.inr (hw _ (List.mem_of_getElem? (i := 68) rfl))) (by decide) (t := (.object "java/lang/String")) (t' := (.object "java/util/List")) (by decide) (by decide)))
  have F_location'58 := F_location'48.other W54 (Or.inr (slot_ne (Or.inr (hw _ (List.mem_of_getElem? (i := 74) rfl))) (Or.inr (hw _ (List.mem_of_getElem? (i := 68) rfl))) (by decide) (t := (.object "com/example/arthurs_seat/arthursseat/language/SourceLocation")) (t' := (.object "java/util/List")) (by decide) (by decide)))
  have F_fed'59 := F_fed'49.other W54 (Or.inr (slot_ne (Or.inl (hw _ (List.mem_of_getElem? (i := 86) rfl))) (Or.inr (hw _ (List.mem_of_getElem? (i := 68) rfl))) (by decide) (t := .boolean) (t' := (.object "java/util/List")) (by decide) (by decide)))
  have F_upstream'60 := F_upstream'50.other W54 (Or.inr (slot_ne (Or.inl (hw _ (List.mem_of_getElem? (i := 88) rfl))) (Or.inr (hw _ (List.mem_of_getElem? (i := 68) rfl))) (by decide) (t := (.object "com/example/arthurs_seat/arthursseat/language/Junction")) (t' := (.object "java/util/List")) (by decide) (by decide)))
  have F_source'61 := F_source'51.other W54 (Or.inr (slot_ne (Or.inl (hw _ (List.mem_of_getElem? (i := 125) rfl))) (Or.inr (hw _ (List.mem_of_getElem? (i := 68) rfl))) (by decide) (t := (.object "com/example/arthurs_seat/arthursseat/model/ConnectionSource")) (t' := (.object "java/util/List")) (by decide) (by decide)))
  have O0'62 := O0'52.wr W54 g_a
  have Eq42'63 := Eq42.wr W54
  have Fq42_modCount'64 := Fq42_modCount.other W54 (Or.inl (Ne.symm ne_a0x_b31))
  have Fq42_size'65 := Fq42_size.other W54 (Or.inl (Ne.symm ne_a0x_b31))
  have Fq42_elementData'66 := Fq42_elementData.other W54 (Or.inl (Ne.symm ne_a0x_b31))
  have Z_67 : n0 ≤ h54.size := Nat.le_trans Z_43 (Nat.le_of_eq (Wr.size W54).symm)
  have N54 := Fr.snoc X54 N42 g_a
  have K54 : Keep h0 h54 [a0x] := K42.wr W54 (Or.inl (List.mem_of_getElem? (i := 0) rfl))
  obtain ⟨T68, h68, X68, e68, E68, A68, D68, -, st68⟩ := newO X54 hx hZ hown (hw _ (List.mem_of_getElem? (i := 43) rfl)) (hw _ (List.mem_of_getElem? (i := 44) rfl)) (hw _ (List.mem_of_getElem? (i := 45) rfl)) e54 (g := (mkF m 16 #[.val (.ref a0x), .val (.ref a1), .val (.ref a2)] [(.ref a0x)])) rfl (hb hby d5_16) (by decide) (by decide)
  obtain ⟨b68, g68⟩ : ∃ z, z = h54.size := ⟨_, rfl⟩
  rw [← g68] at A68 D68 st68
  have ne_a0x_b68 : a0x ≠ b68 := Nat.ne_of_lt (Nat.lt_of_lt_of_le E_a'55.lt (Nat.le_of_eq g68.symm))
  have ne_b31_b68 : b31 ≠ b68 := Nat.ne_of_lt (Nat.lt_of_lt_of_le Eq42'63.lt (Nat.le_of_eq g68.symm))
  have g_b68 : n0 ≤ b68 := Nat.le_trans Z_67 (Nat.le_of_eq g68.symm)
  have sz_b68 : h0.size ≤ b68 := Nat.le_trans K54.1 (Nat.le_of_eq g68.symm)
  have E_a'69 := E_a'55.ext E68
  have Fw54'70 := Fw54.ext E68
  have F_downstream'71 := F_downstream'56.ext E68
  have F_name'72 := F_name'57.ext E68
  have F_location'73 := F_location'58.ext E68
  have F_fed'74 := F_fed'59.ext E68
  have F_upstream'75 := F_upstream'60.ext E68
  have F_source'76 := F_source'61.ext E68
  have O0'77 := O0'62.ext E68
  have Eq42'78 := Eq42'63.ext E68
  have Fq42_modCount'79 := Fq42_modCount'64.ext E68
  have Fq42_size'80 := Fq42_size'65.ext E68
  have Fq42_elementData'81 := Fq42_elementData'66.ext E68
  have Z_82 : n0 ≤ h68.size := Nat.le_trans Z_67 E68.1
  have K68 : Keep h0 h68 [a0x] := K54.ext E68
  have F_modCount_b68 : Fld Z h68 b68 "java/util/AbstractList" "modCount" "I" (.int (0 : Int32)) := D68 (Or.inl (hw _ (List.mem_of_getElem? (i := 63) rfl))) (ty := .int) (by decide)
  have F_elementData_b68 : Fld Z h68 b68 "java/util/ArrayList" "elementData" "[Ljava/lang/Object;" .null := D68 (Or.inl (hw _ (List.mem_of_getElem? (i := 66) rfl))) (ty := (.array (.object "java/lang/Object"))) (by decide)
  have F_size_b68 : Fld Z h68 b68 "java/util/ArrayList" "size" "I" (.int (0 : Int32)) := D68 (Or.inl (hw _ (List.mem_of_getElem? (i := 101) rfl))) (ty := .int) (by decide)
  obtain ⟨_, _, ⟨T83, L83, k83, n83⟩, -, X83, ⟨Lc83, hQ83, l83, y83, z83⟩, st83⟩ := X68.specialBack hx (y := (⟨"java/util/ArrayList", "<init>", "()V"⟩ : MethodName)) rfl hown (mvT hZ (hw _ (List.mem_of_getElem? (i := 46) rfl))) (mvT hZ (hw _ (List.mem_of_getElem? (i := 47) rfl))) (mvT hZ (hw _ (List.mem_of_getElem? (i := 48) rfl))) (by decide) (backOf (W := 2) (rm6 l Z a0 hw [] b68 dfl cd h68 n0 Z_82 A68 g_b68 F_modCount_b68 F_size_b68 F_elementData_b68 O0'77 SD DA DS) hZ (hw _ (List.mem_of_getElem? (i := 48) rfl)) (hw _ (List.mem_of_getElem? (i := 45) rfl)) (by decide) (by decide)) (g := (mkF m 20 #[.val (.ref a0x), .val (.ref a1), .val (.ref a2)] [(.ref b68), (.ref b68), (.ref a0x)])) rfl (by rw [hml]; rfl) (Steps.refl _) (a := b68) (argsL := []) (rest := [(.ref b68), (.ref a0x)]) (lenOf pd_0 rfl) rfl (by show 2 * 0 + _ ≤ _; exact Nat.le_of_eq rfl) (hb hby d5_20) (fun _ _ => ⟨rfl, e68, (by decide : 2 + 0 ≤ _), (by decide : 6 + 0 ≤ _)⟩)
  dsimp only [Pt.U, Pt.locs, Pt.cells, Pt.slots] at X83 l83 y83 z83 st83 hQ83
  subst l83 y83 z83
  obtain ⟨rfl, N83q, Kq83, Eq83, Fq83_modCount, Fq83_size, Fq83_elementData⟩ := hQ83
  have N83 := Fr.app N54 N83q
  have Z_84 : n0 ≤ T83.heap.size := Nat.le_trans Z_82 Kq83.1
  have K83 : Keep h0 T83.heap [a0x] := Keep.trans K68 Kq83 (allS (Or.inr sz_b68) all0)
  have E_a'85 := E_a'69.keep Kq83
  have Fw54'86 := Fw54'70.keep Kq83 (ninS ne_a0x_b68 nin0)
  have F_downstream'87 := F_downstream'71.keep Kq83 (ninS ne_a0x_b68 nin0)
  have F_name'88 := F_name'72.keep Kq83 (ninS ne_a0x_b68 nin0)
  have F_location'89 := F_location'73.keep Kq83 (ninS ne_a0x_b68 nin0)
  have F_fed'90 := F_fed'74.keep Kq83 (ninS ne_a0x_b68 nin0)
  have F_upstream'91 := F_upstream'75.keep Kq83 (ninS ne_a0x_b68 nin0)
  have F_source'92 := F_source'76.keep Kq83 (ninS ne_a0x_b68 nin0)
  have O0'93 := O0'77.keep Kq83 (allS g_b68 all0)
  have Eq42'94 := Eq42'78.keep Kq83
  have Fq42_modCount'95 := Fq42_modCount'79.keep Kq83 (ninS ne_b31_b68 nin0)
  have Fq42_size'96 := Fq42_size'80.keep Kq83 (ninS ne_b31_b68 nin0)
  have Fq42_elementData'97 := Fq42_elementData'81.keep Kq83 (ninS ne_b31_b68 nin0)
  have A68'98 := A68.keep Kq83
  obtain ⟨T99, h99, X99, e99, W99, st99⟩ := putF X83 hx hZ hown (host := "") (Or.inl (hw _ (List.mem_of_getElem? (i := 69) rfl))) Via.refl rfl F_downstream'87 E_a'85 (Or.inr ⟨(hw _ (List.mem_of_getElem? (i := 70) rfl)), rfl, hnm⟩) (hw _ (List.mem_of_getElem? (i := 36) rfl)) (ty := (.object "java/util/List")) (by decide) rfl rfl (g := (mkF m 23 #[.val (.ref a0x), .val (.ref a1), .val (.ref a2)] [(.ref b68), (.ref a0x)])) rfl rfl (hb hby d5_23)
  have Fw99 := F_downstream'87.same W99
  have E_a'100 := E_a'85.wr W99
  have Fw54'101 := Fw54'86.other W99 (Or.inr (slot_ne (Or.inr (hw _ (List.mem_of_getElem? (i := 68) rfl))) (Or.inr (hw _ (List.mem_of_getElem? (i := 70) rfl))) (by decide) (t := (.object "java/util/List")) (t' := (.object "java/util/List")) (by decide) (by decide)))
  have F_name'102 := F_name'88.other W99 (Or.inr (slot_ne (Or.inr (hw _ (List.mem_of_getElem? (i := 72) rfl))) (Or.inr (hw _ (List.mem_of_getElem? (i := 70) rfl))) (by decide) (t := (.object "java/lang/String")) (t' := (.object "java/util/List")) (by decide) (by decide)))
  have F_location'103 := F_location'89.other W99 (Or.inr (slot_ne (Or.inr (hw _ (List.mem_of_getElem? (i := 74) rfl))) (Or.inr (hw _ (List.mem_of_getElem? (i := 70) rfl))) (by decide) (t := (.object "com/example/arthurs_seat/arthursseat/language/SourceLocation")) (t' := (.object "java/util/List")) (by decide) (by decide)))
  have F_fed'104 := F_fed'90.other W99 (Or.inr (slot_ne (Or.inl (hw _ (List.mem_of_getElem? (i := 86) rfl))) (Or.inr (hw _ (List.mem_of_getElem? (i := 70) rfl))) (by decide) (t := .boolean) (t' := (.object "java/util/List")) (by decide) (by decide)))
  have F_upstream'105 := F_upstream'91.other W99 (Or.inr (slot_ne (Or.inl (hw _ (List.mem_of_getElem? (i := 88) rfl))) (Or.inr (hw _ (List.mem_of_getElem? (i := 70) rfl))) (by decide) (t := (.object "com/example/arthurs_seat/arthursseat/language/Junction")) (t' := (.object "java/util/List")) (by decide) (by decide)))
  have F_source'106 := F_source'92.other W99 (Or.inr (slot_ne (Or.inl (hw _ (List.mem_of_getElem? (i := 125) rfl))) (Or.inr (hw _ (List.mem_of_getElem? (i := 70) rfl))) (by decide) (t := (.object "com/example/arthurs_seat/arthursseat/model/ConnectionSource")) (t' := (.object "java/util/List")) (by decide) (by decide)))
  have O0'107 := O0'93.wr W99 g_a
  have Eq42'108 := Eq42'94.wr W99
  have Fq42_modCount'109 := Fq42_modCount'95.other W99 (Or.inl (Ne.symm ne_a0x_b31))
  have Fq42_size'110 := Fq42_size'96.other W99 (Or.inl (Ne.symm ne_a0x_b31))
  have Fq42_elementData'111 := Fq42_elementData'97.other W99 (Or.inl (Ne.symm ne_a0x_b31))
  have Eq83'112 := Eq83.wr W99
  have Fq83_modCount'113 := Fq83_modCount.other W99 (Or.inl (Ne.symm ne_a0x_b68))
  have Fq83_size'114 := Fq83_size.other W99 (Or.inl (Ne.symm ne_a0x_b68))
  have Fq83_elementData'115 := Fq83_elementData.other W99 (Or.inl (Ne.symm ne_a0x_b68))
  have Z_116 : n0 ≤ h99.size := Nat.le_trans Z_84 (Nat.le_of_eq (Wr.size W99).symm)
  have N99 := Fr.snoc X99 N83 g_a
  have K99 : Keep h0 h99 [a0x] := K83.wr W99 (Or.inl (List.mem_of_getElem? (i := 0) rfl))
  obtain ⟨T117, h117, X117, e117, W117, st117⟩ := putF X99 hx hZ hown (host := "") (Or.inl (hw _ (List.mem_of_getElem? (i := 71) rfl))) Via.refl e99 F_name'102 E_a'100 (Or.inr ⟨(hw _ (List.mem_of_getElem? (i := 72) rfl)), rfl, hnm⟩) (hw _ (List.mem_of_getElem? (i := 36) rfl)) (ty := (.object "java/lang/String")) (by decide) rfl rfl (g := (mkF m 28 #[.val (.ref a0x), .val (.ref a1), .val (.ref a2)] [(.ref a1), (.ref a0x)])) rfl rfl (hb hby d5_28)
  have Fw117 := F_name'102.same W117
  have E_a'118 := E_a'100.wr W117
  have Fw54'119 := Fw54'101.other W117 (Or.inr (slot_ne (Or.inr (hw _ (List.mem_of_getElem? (i := 68) rfl))) (Or.inr (hw _ (List.mem_of_getElem? (i := 72) rfl))) (by decide) (t := (.object "java/util/List")) (t' := (.object "java/lang/String")) (by decide) (by decide)))
  have Fw99'120 := Fw99.other W117 (Or.inr (slot_ne (Or.inr (hw _ (List.mem_of_getElem? (i := 70) rfl))) (Or.inr (hw _ (List.mem_of_getElem? (i := 72) rfl))) (by decide) (t := (.object "java/util/List")) (t' := (.object "java/lang/String")) (by decide) (by decide)))
  have F_location'121 := F_location'103.other W117 (Or.inr (slot_ne (Or.inr (hw _ (List.mem_of_getElem? (i := 74) rfl))) (Or.inr (hw _ (List.mem_of_getElem? (i := 72) rfl))) (by decide) (t := (.object "com/example/arthurs_seat/arthursseat/language/SourceLocation")) (t' := (.object "java/lang/String")) (by decide) (by decide)))
  have F_fed'122 := F_fed'104.other W117 (Or.inr (slot_ne (Or.inl (hw _ (List.mem_of_getElem? (i := 86) rfl))) (Or.inr (hw _ (List.mem_of_getElem? (i := 72) rfl))) (by decide) (t := .boolean) (t' := (.object "java/lang/String")) (by decide) (by decide)))
  have F_upstream'123 := F_upstream'105.other W117 (Or.inr (slot_ne (Or.inl (hw _ (List.mem_of_getElem? (i := 88) rfl))) (Or.inr (hw _ (List.mem_of_getElem? (i := 72) rfl))) (by decide) (t := (.object "com/example/arthurs_seat/arthursseat/language/Junction")) (t' := (.object "java/lang/String")) (by decide) (by decide)))
  have F_source'124 := F_source'106.other W117 (Or.inr (slot_ne (Or.inl (hw _ (List.mem_of_getElem? (i := 125) rfl))) (Or.inr (hw _ (List.mem_of_getElem? (i := 72) rfl))) (by decide) (t := (.object "com/example/arthurs_seat/arthursseat/model/ConnectionSource")) (t' := (.object "java/lang/String")) (by decide) (by decide)))
  have O0'125 := O0'107.wr W117 g_a
  have Eq42'126 := Eq42'108.wr W117
  have Fq42_modCount'127 := Fq42_modCount'109.other W117 (Or.inl (Ne.symm ne_a0x_b31))
  have Fq42_size'128 := Fq42_size'110.other W117 (Or.inl (Ne.symm ne_a0x_b31))
  have Fq42_elementData'129 := Fq42_elementData'111.other W117 (Or.inl (Ne.symm ne_a0x_b31))
  have Eq83'130 := Eq83'112.wr W117
  have Fq83_modCount'131 := Fq83_modCount'113.other W117 (Or.inl (Ne.symm ne_a0x_b68))
  have Fq83_size'132 := Fq83_size'114.other W117 (Or.inl (Ne.symm ne_a0x_b68))
  have Fq83_elementData'133 := Fq83_elementData'115.other W117 (Or.inl (Ne.symm ne_a0x_b68))
  have Z_134 : n0 ≤ h117.size := Nat.le_trans Z_116 (Nat.le_of_eq (Wr.size W117).symm)
  have N117 := Fr.snoc X117 N99 g_a
  have K117 : Keep h0 h117 [a0x] := K99.wr W117 (Or.inl (List.mem_of_getElem? (i := 0) rfl))
  obtain ⟨T135, h135, X135, e135, W135, st135⟩ := putF X117 hx hZ hown (host := "") (Or.inl (hw _ (List.mem_of_getElem? (i := 73) rfl))) Via.refl e117 F_location'121 E_a'118 (Or.inr ⟨(hw _ (List.mem_of_getElem? (i := 74) rfl)), rfl, hnm⟩) (hw _ (List.mem_of_getElem? (i := 36) rfl)) (ty := (.object "com/example/arthurs_seat/arthursseat/language/SourceLocation")) (by decide) rfl rfl (g := (mkF m 33 #[.val (.ref a0x), .val (.ref a1), .val (.ref a2)] [(.ref a2), (.ref a0x)])) rfl rfl (hb hby d5_33)
  have Fw135 := F_location'121.same W135
  have E_a'136 := E_a'118.wr W135
  have Fw54'137 := Fw54'119.other W135 (Or.inr (slot_ne (Or.inr (hw _ (List.mem_of_getElem? (i := 68) rfl))) (Or.inr (hw _ (List.mem_of_getElem? (i := 74) rfl))) (by decide) (t := (.object "java/util/List")) (t' := (.object "com/example/arthurs_seat/arthursseat/language/SourceLocation")) (by decide) (by decide)))
  have Fw99'138 := Fw99'120.other W135 (Or.inr (slot_ne (Or.inr (hw _ (List.mem_of_getElem? (i := 70) rfl))) (Or.inr (hw _ (List.mem_of_getElem? (i := 74) rfl))) (by decide) (t := (.object "java/util/List")) (t' := (.object "com/example/arthurs_seat/arthursseat/language/SourceLocation")) (by decide) (by decide)))
  have Fw117'139 := Fw117.other W135 (Or.inr (slot_ne (Or.inr (hw _ (List.mem_of_getElem? (i := 72) rfl))) (Or.inr (hw _ (List.mem_of_getElem? (i := 74) rfl))) (by decide) (t := (.object "java/lang/String")) (t' := (.object "com/example/arthurs_seat/arthursseat/language/SourceLocation")) (by decide) (by decide)))
  have F_fed'140 := F_fed'122.other W135 (Or.inr (slot_ne (Or.inl (hw _ (List.mem_of_getElem? (i := 86) rfl))) (Or.inr (hw _ (List.mem_of_getElem? (i := 74) rfl))) (by decide) (t := .boolean) (t' := (.object "com/example/arthurs_seat/arthursseat/language/SourceLocation")) (by decide) (by decide)))
  have F_upstream'141 := F_upstream'123.other W135 (Or.inr (slot_ne (Or.inl (hw _ (List.mem_of_getElem? (i := 88) rfl))) (Or.inr (hw _ (List.mem_of_getElem? (i := 74) rfl))) (by decide) (t := (.object "com/example/arthurs_seat/arthursseat/language/Junction")) (t' := (.object "com/example/arthurs_seat/arthursseat/language/SourceLocation")) (by decide) (by decide)))
  have F_source'142 := F_source'124.other W135 (Or.inr (slot_ne (Or.inl (hw _ (List.mem_of_getElem? (i := 125) rfl))) (Or.inr (hw _ (List.mem_of_getElem? (i := 74) rfl))) (by decide) (t := (.object "com/example/arthurs_seat/arthursseat/model/ConnectionSource")) (t' := (.object "com/example/arthurs_seat/arthursseat/language/SourceLocation")) (by decide) (by decide)))
  have O0'143 := O0'125.wr W135 g_a
  have Eq42'144 := Eq42'126.wr W135
  have Fq42_modCount'145 := Fq42_modCount'127.other W135 (Or.inl (Ne.symm ne_a0x_b31))
  have Fq42_size'146 := Fq42_size'128.other W135 (Or.inl (Ne.symm ne_a0x_b31))
  have Fq42_elementData'147 := Fq42_elementData'129.other W135 (Or.inl (Ne.symm ne_a0x_b31))
  have Eq83'148 := Eq83'130.wr W135
  have Fq83_modCount'149 := Fq83_modCount'131.other W135 (Or.inl (Ne.symm ne_a0x_b68))
  have Fq83_size'150 := Fq83_size'132.other W135 (Or.inl (Ne.symm ne_a0x_b68))
  have Fq83_elementData'151 := Fq83_elementData'133.other W135 (Or.inl (Ne.symm ne_a0x_b68))
  have Z_152 : n0 ≤ h135.size := Nat.le_trans Z_134 (Nat.le_of_eq (Wr.size W135).symm)
  have N135 := Fr.snoc X135 N117 g_a
  have K135 : Keep h0 h135 [a0x] := K117.wr W135 (Or.inl (List.mem_of_getElem? (i := 0) rfl))
  have k153 : ∀ t, Steps p.tables e below (T135.setTop (mkF m 36 #[.val (.ref a0x), .val (.ref a1), .val (.ref a2)] [])) t → Steps p.tables e below (s₁.setTop (entryFrame m #[(.ref a0x), (.ref a1), (.ref a2)] 3)) t := fun t kt => pre0 t (by
      let A0 : Array Slot := #[.val (.ref a0x), .val (.ref a1), .val (.ref a2)]
      show Steps p.tables e below (s₁.setTop (mkF m 0 A0 [])) _
      refine XS.aloadN X0.here hx rfl (hb hby d5_0) rfl rfl ?_
      show Steps p.tables e below (s₁.setTop (mkF m 1 A0 [(.ref a0x)])) _
      refine st30 _ ?_
      show Steps p.tables e below (T30.setTop (mkF m 4 A0 [])) _
      refine XS.aloadN X30.here hx rfl (hb hby d5_4) rfl rfl ?_
      show Steps p.tables e below (T30.setTop (mkF m 5 A0 [(.ref a0x)])) _
      refine st31 _ ?_
      show Steps p.tables e below (T31.setTop (mkF m 8 A0 [(.ref b31), (.ref a0x)])) _
      refine XS.dup X31.here hx rfl (hb hby d5_8) rfl rfl ?_
      show Steps p.tables e below (T31.setTop (mkF m 9 A0 [(.ref b31), (.ref b31), (.ref a0x)])) _
      refine st42.trans ?_
      show Steps p.tables e below (T42.setTop (mkF m 12 A0 [(.ref b31), (.ref a0x)])) _
      refine st54 _ ?_
      show Steps p.tables e below (T54.setTop (mkF m 15 A0 [])) _
      refine XS.aloadN X54.here hx rfl (hb hby d5_15) rfl rfl ?_
      show Steps p.tables e below (T54.setTop (mkF m 16 A0 [(.ref a0x)])) _
      refine st68 _ ?_
      show Steps p.tables e below (T68.setTop (mkF m 19 A0 [(.ref b68), (.ref a0x)])) _
      refine XS.dup X68.here hx rfl (hb hby d5_19) rfl rfl ?_
      show Steps p.tables e below (T68.setTop (mkF m 20 A0 [(.ref b68), (.ref b68), (.ref a0x)])) _
      refine st83.trans ?_
      show Steps p.tables e below (T83.setTop (mkF m 23 A0 [(.ref b68), (.ref a0x)])) _
      refine st99 _ ?_
      show Steps p.tables e below (T99.setTop (mkF m 26 A0 [])) _
      refine XS.aloadN X99.here hx rfl (hb hby d5_26) rfl rfl ?_
      show Steps p.tables e below (T99.setTop (mkF m 27 A0 [(.ref a0x)])) _
      refine XS.aloadN X99.here hx rfl (hb hby d5_27) rfl rfl ?_
      show Steps p.tables e below (T99.setTop (mkF m 28 A0 [(.ref a1), (.ref a0x)])) _
      refine st117 _ ?_
      show Steps p.tables e below (T117.setTop (mkF m 31 A0 [])) _
      refine XS.aloadN X117.here hx rfl (hb hby d5_31) rfl rfl ?_
      show Steps p.tables e below (T117.setTop (mkF m 32 A0 [(.ref a0x)])) _
      refine XS.aloadN X117.here hx rfl (hb hby d5_32) rfl rfl ?_
      show Steps p.tables e below (T117.setTop (mkF m 33 A0 [(.ref a2), (.ref a0x)])) _
      refine st135 _ ?_
      exact kt)
  obtain ⟨fs, hr, hrun, hended, hW, hsame⟩ := X135.leave (v := none) (fun _ => rfl)
  refine ⟨_, _, k153 _ ?_, hrun, hended, _, _, rfl, ?_, ⟨_, rfl⟩, hW, hsame.mono (by decide) (by decide)⟩
  · show Steps p.tables e below (T135.setTop (mkF m 36 #[.val (.ref a0x), .val (.ref a1), .val (.ref a2)] [])) _
    exact X135.returnOut hx Bd.returns (hb hby d5_36) hr
  · show Q_rm5 Z a0x dfl h0 n0 _ T135.heap _
    rw [e135]
    exact ⟨rfl, N135, K135, E_a'136, F_fed'140, F_upstream'141, F_source'142, b68, sz_b68, g_b68, Fw99'138, Eq83'148, Fq83_modCount'149, Fq83_size'150, Fq83_elementData'151⟩
theorem d1_0 : decode prog_134_method_1_code 0 = .ok (.aload_n 0, 1) := by decide +kernel
theorem d1_1 : decode prog_134_method_1_code 1 = .ok (.invokespecial 1, 3) := by decide +kernel
theorem d1_4 : decode prog_134_method_1_code 4 = .ok (.aload_n 1, 1) := by decide +kernel
theorem d1_5 : decode prog_134_method_1_code 5 = .ok (.ldc 7, 2) := by decide +kernel
theorem pd_1 : parseMethodDescriptor "(Ljava/lang/Object;Ljava/lang/String;)Ljava/lang/Object;" = some ⟨[(.object "java/lang/Object"), (.object "java/lang/String")], some (.object "java/lang/Object")⟩ := by decide +kernel
theorem d1_7 : decode prog_134_method_1_code 7 = .ok (.invokestatic 9, 3) := by decide +kernel
theorem d1_10 : decode prog_134_method_1_code 10 = .ok (.pop, 1) := by decide +kernel
theorem d1_11 : decode prog_134_method_1_code 11 = .ok (.aload_n 1, 1) := by decide +kernel
theorem pd_2 : parseMethodDescriptor "()Z" = some ⟨[], some .boolean⟩ := by decide +kernel
theorem d1_12 : decode prog_134_method_1_code 12 = .ok (.invokevirtual 15, 3) := by decide +kernel
theorem d1_15 : decode prog_134_method_1_code 15 = .ok (.ifCond .eq 13, 3) := by decide +kernel
theorem d1_28 : decode prog_134_method_1_code 28 = .ok (.iload_n 2, 1) := by decide +kernel
theorem d1_29 : decode prog_134_method_1_code 29 = .ok (.iconst 1, 1) := by decide +kernel
theorem d1_30 : decode prog_134_method_1_code 30 = .ok (.if_icmp .ge 17, 3) := by decide +kernel
theorem d1_47 : decode prog_134_method_1_code 47 = .ok (.iload_n 3, 1) := by decide +kernel
theorem d1_48 : decode prog_134_method_1_code 48 = .ok (.iconst 1, 1) := by decide +kernel
theorem d1_49 : decode prog_134_method_1_code 49 = .ok (.if_icmp .ge 17, 3) := by decide +kernel
theorem d1_66 : decode prog_134_method_1_code 66 = .ok (.aload_n 0, 1) := by decide +kernel
theorem d1_67 : decode prog_134_method_1_code 67 = .ok (.aload_n 1, 1) := by decide +kernel
theorem d1_68 : decode prog_134_method_1_code 68 = .ok (.putfield 33, 3) := by decide +kernel
theorem d1_71 : decode prog_134_method_1_code 71 = .ok (.aload_n 0, 1) := by decide +kernel
theorem d1_72 : decode prog_134_method_1_code 72 = .ok (.iload_n 2, 1) := by decide +kernel
theorem d1_73 : decode prog_134_method_1_code 73 = .ok (.putfield 38, 3) := by decide +kernel
theorem d1_76 : decode prog_134_method_1_code 76 = .ok (.aload_n 0, 1) := by decide +kernel
theorem d1_77 : decode prog_134_method_1_code 77 = .ok (.iload_n 3, 1) := by decide +kernel
theorem d1_78 : decode prog_134_method_1_code 78 = .ok (.putfield 42, 3) := by decide +kernel
theorem d1_81 : decode prog_134_method_1_code 81 = .ok (.return_, 1) := by decide +kernel
theorem pn_c6 : plainName "com/example/arthurs_seat/arthursseat/language/SourceLocation" = true := by first | (simp [plainName, overriddenIn]; done) | decide +kernel
theorem ef_rm1 (m : MethodId) (x0 : Addr) (x1 : Addr) (x2 : Int32) (x3 : Int32) : entryFrame m #[(.ref x0), (.ref x1), (.int x2), (.int x3)] 4 = mkF m 0 #[.val (.ref x0), .val (.ref x1), .val (.int x2), .val (.int x3)] [] := by first | (simp [entryFrame, mkF, argsToLocals, Value.category]; done) | rfl
def Q_rm1 (Z : State) (a0x : Addr) (h0 : Heap) (n0 : Nat) (v : Option Value) (h : Heap) (L : List Loc) : Prop := v = none ∧ Fr n0 L ∧ Keep h0 h [a0x]
set_option maxRecDepth 65536 in
set_option maxHeartbeats 40000000 in
theorem rm1 (l : Launch) (Z : State) (a0 : Array Value) (hw : ∀ d ∈ tables_1, d.before a0 Z = true) (ws : List Jvm.Cond) (a0x a1 bs : Addr) (kb : ClassId) (vs : List Value) (h0 : Heap) (n0 : Nat) (Z0 : n0 ≤ h0.size) (E_a : Exa Z h0 a0x "com/example/arthurs_seat/arthursseat/language/SourceLocation") (g_a : n0 ≤ a0x) (F_file : Fld Z h0 a0x "com/example/arthurs_seat/arthursseat/language/SourceLocation" "file" "Ljava/lang/String;" .null) (F_line : Fld Z h0 a0x "com/example/arthurs_seat/arthursseat/language/SourceLocation" "line" "I" (.int (0 : Int32))) (F_column : Fld Z h0 a0x "com/example/arthurs_seat/arthursseat/language/SourceLocation" "column" "I" (.int (0 : Int32))) (E_1 : Exa Z h0 a1 "java/lang/String") (FV : Fld Z h0 a1 "java/lang/String" "value" "[B" (.ref bs)) (VB : Arv Z h0 bs kb .byte (1 : Int32) vs (.int 0)) (ne1 : a1 ≠ a0x) (ne2 : bs ≠ a0x) :
    MetFree l (⟨"com/example/arthurs_seat/arthursseat/language/SourceLocation", "<init>", "(Ljava/lang/String;II)V"⟩ : MethodName) (head1 (Jvm.Cond.code (⟨"com/example/arthurs_seat/arthursseat/language/SourceLocation", "<init>", "(Ljava/lang/String;II)V"⟩ : MethodName) prog_134_method_1_code 4 none :: ws) ({ frames := 1, cells := 2, slots := 20, locals := 13 } : Room)) (fun a U => a = #[(.ref a0x), (.ref a1), (.int (1 : Int32)), (.int (1 : Int32))] ∧ Z.Warmed39 U.vm ∧ U.heap = h0) (fun _ _ _ _ _ => True) (fun _ U o U' => ∃ v L, o = .returned v ∧ Q_rm1 Z a0x h0 n0 v U'.heap L ∧ ReturnedEndW U o U' L ({ frames := 1, cells := 2, slots := 20, locals := 13 } : Room).cells ({ frames := 1, cells := 2, slots := 20, locals := 13 } : Room).slots) := by
  refine MetFree.of_bodySF (plainFor_of_name pn_c6) hisR ?_
  intro p e s m args below meth c s₁ Bd hml0 hP hK
  obtain ⟨rfl, hZ, hh⟩ := hP
  have hx := Bd.exec
  have hby := Bd.bytes
  have hml : c.maxLocals = 4 := hml0
  have hown : s.vm.findClass "com/example/arthurs_seat/arthursseat/language/SourceLocation" = some m.cls := findClass_of_methodNamed Bd.named
  have hnm := (name_of_methodNamed Bd.named Bd.method).1
  have X0 : Stand p l e ({ frames := 1, cells := 2, slots := 20, locals := 13 } : Room) (s.setVm s.vm) m #[(.ref a0x), (.ref a1), (.int (1 : Int32)), (.int (1 : Int32))] below meth c s₁ [] 0 0 := Stand.of_body Bd
  have e0 : s₁.heap = h0 := by rw [← hh, Bd.state]; rfl
  have N0 := Fr.nil n0
  have pre0 : ∀ t, Steps p.tables e below (s₁.setTop (mkF m 0 #[.val (.ref a0x), .val (.ref a1), .val (.int (1 : Int32)), .val (.int (1 : Int32))] [])) t → Steps p.tables e below (s₁.setTop (entryFrame m #[(.ref a0x), (.ref a1), (.int (1 : Int32)), (.int (1 : Int32))] 4)) t := fun t k => castTop (ef_rm1 m a0x a1 (1 : Int32) (1 : Int32)) k
  have hS0 : s.Since s.vm h0.size := (State.WarmedH.refl s).since _
  have hk0 : h0.size ≤ h0.size := Nat.le_refl _
  replace hZ : Z.Warmed39 (s.setVm s.vm).vm := hZ
  replace hown : (s.setVm s.vm).vm.findClass "com/example/arthurs_seat/arthursseat/language/SourceLocation" = some m.cls := hown
  have wS : ∀ a ∈ Bundle.stringAtoms, a.before a0 Z = true := fun a ha => by
    simp only [Bundle.stringAtoms, Bundle.sN, List.mem_cons, List.not_mem_nil, or_false] at ha
    rcases ha with rfl | rfl | rfl | rfl | rfl | rfl | rfl
    · exact (hw _ (List.mem_of_getElem? (i := 4) rfl))
    · exact (hw _ (List.mem_of_getElem? (i := 5) rfl))
    · exact (hw _ (List.mem_of_getElem? (i := 6) rfl))
    · exact (hw _ (List.mem_of_getElem? (i := 7) rfl))
    · exact (hw _ (List.mem_of_getElem? (i := 8) rfl))
    · exact (hw _ (List.mem_of_getElem? (i := 9) rfl))
    · exact (hw _ (List.mem_of_getElem? (i := 10) rfl))
  obtain ⟨T154, X154, e154, st154⟩ := initO X0 hx hZ hown (hw _ (List.mem_of_getElem? (i := 14) rfl)) (hw _ (List.mem_of_getElem? (i := 15) rfl)) (hw _ (List.mem_of_getElem? (i := 16) rfl)) e0 (g := (mkF m 1 #[.val (.ref a0x), .val (.ref a1), .val (.int (1 : Int32)), .val (.int (1 : Int32))] [(.ref a0x)])) rfl (by rw [hml]; rfl) rfl (hb hby d1_1) (by decide) (W := 0) (by show 2 * 0 + _ ≤ _; exact Nat.le_of_eq rfl) (by decide)
  have k155 : ∀ t, Steps p.tables e below (T154.setTop (mkF m 5 #[.val (.ref a0x), .val (.ref a1), .val (.int (1 : Int32)), .val (.int (1 : Int32))] [(.ref a1)])) t → Steps p.tables e below (s₁.setTop (entryFrame m #[(.ref a0x), (.ref a1), (.int (1 : Int32)), (.int (1 : Int32))] 4)) t := fun t kt => pre0 t (by
      let A0 : Array Slot := #[.val (.ref a0x), .val (.ref a1), .val (.int (1 : Int32)), .val (.int (1 : Int32))]
      show Steps p.tables e below (s₁.setTop (mkF m 0 A0 [])) _
      refine XS.aloadN X0.here hx rfl (hb hby d1_0) rfl rfl ?_
      show Steps p.tables e below (s₁.setTop (mkF m 1 A0 [(.ref a0x)])) _
      refine st154 _ ?_
      show Steps p.tables e below (T154.setTop (mkF m 4 A0 [])) _
      refine XS.aloadN X154.here hx rfl (hb hby d1_4) rfl rfl ?_
      exact kt)
  obtain ⟨b156, T156, h156, kk156, X156, e156, E156, hS156, hk156, hZ, hown, st156⟩ := ldcS (s := s) (vm0 := s.vm) X154 hx hZ hown (hw _ (List.mem_of_getElem? (i := 17) rfl)) wS e154 hS0 hk0 (g := (mkF m 5 #[.val (.ref a0x), .val (.ref a1), .val (.int (1 : Int32)), .val (.int (1 : Int32))] [(.ref a1)])) rfl (hb hby d1_5) (n := 16) (by decide) (by decide) (by decide) (by decide)
  have E_a'157 := E_a.ext E156
  have F_file'158 := F_file.ext E156
  have F_line'159 := F_line.ext E156
  have F_column'160 := F_column.ext E156
  have E_1'161 := E_1.ext E156
  have FV'162 := FV.ext E156
  have VB'163 := VB.ext E156
  have Z_164 : n0 ≤ h156.size := Nat.le_trans Z0 E156.1
  have K156 : Keep h0 h156 [a0x] := (Keep.refl h0 [a0x]).ext E156
  obtain ⟨_, _, ⟨T165, L165, k165, n165⟩, -, X165, ⟨Lc165, hQ165, l165, y165, z165⟩, st165⟩ := Jvm.LawKit.callS X156 hx (y := (⟨"java/util/Objects", "requireNonNull", "(Ljava/lang/Object;Ljava/lang/String;)Ljava/lang/Object;"⟩ : MethodName)) hown (mvT hZ (hw _ (List.mem_of_getElem? (i := 18) rfl))) (mvT hZ (hw _ (List.mem_of_getElem? (i := 19) rfl))) (mvT hZ (hw _ (List.mem_of_getElem? (i := 20) rfl))) (mvT hZ (hw _ (List.mem_of_getElem? (i := 21) rfl))) (by decide) (backOf (W := 0) (rm3 l Z a0 hw [] a1 b156 h156 n0 Z_164) hZ (hw _ (List.mem_of_getElem? (i := 21) rfl)) (hw _ (List.mem_of_getElem? (i := 20) rfl)) (by decide) (by decide)) (g := (mkF m 7 #[.val (.ref a0x), .val (.ref a1), .val (.int (1 : Int32)), .val (.int (1 : Int32))] [(.ref b156), (.ref a1)])) rfl (by rw [hml]; rfl) (argsL := [(.ref a1), (.ref b156)]) (rest := []) (lenOf pd_1 rfl) rfl (by show 2 * 0 + _ ≤ _; exact Nat.le_of_eq rfl) (hb hby d1_7) (fun _ _ => ⟨rfl, e156, (by decide : 2 + 0 ≤ _), (by decide : 20 + 0 ≤ _)⟩)
  dsimp only [Pt.U, Pt.locs, Pt.cells, Pt.slots] at X165 l165 y165 z165 st165 hQ165
  subst l165 y165 z165
  obtain ⟨rfl, N165q, e165⟩ := hQ165
  have N165 := Fr.app N0 N165q
  obtain ⟨cq166, kq166, q166a, q166b, q166c⟩ := isOf hZ e165 E_1'161
  obtain ⟨_, _, ⟨T166, L166, k166, n166⟩, -, X166, ⟨Lc166, hQ166, l166, y166, z166⟩, st166⟩ := X165.virtualBack hx (y := (⟨"java/lang/String", "isEmpty", "()Z"⟩ : MethodName)) (z := (⟨"java/lang/String", "isEmpty", "()Z"⟩ : MethodName)) hown (mvT hZ (hw _ (List.mem_of_getElem? (i := 22) rfl))) (mvT hZ (hw _ (List.mem_of_getElem? (i := 23) rfl))) (notFace_of_selects (args := #[]) (mvT hZ (hw _ (List.mem_of_getElem? (i := 25) rfl)))) (mvT hZ (hw _ (List.mem_of_getElem? (i := 25) rfl))) (mvT hZ (hw _ (List.mem_of_getElem? (i := 24) rfl))) (by decide) (backOf (W := 0) (rm4 l Z a0 hw [] a1 bs kb vs h156 n0 Z_164 FV'162 VB'163) hZ (hw _ (List.mem_of_getElem? (i := 26) rfl)) (hw _ (List.mem_of_getElem? (i := 4) rfl)) (by decide) (by decide)) q166a q166c (g := (mkF m 12 #[.val (.ref a0x), .val (.ref a1), .val (.int (1 : Int32)), .val (.int (1 : Int32))] [(.ref a1)])) rfl (by rw [hml]; rfl) (Steps.refl _) (argsL := []) (rest := []) (lenOf pd_2 rfl) rfl (by show 2 * 0 + _ ≤ _; exact Nat.le_of_eq rfl) (hb hby d1_12) (fun _ _ => ⟨rfl, e165, (by decide : 2 + 0 ≤ _), (by decide : 20 + 0 ≤ _)⟩)
  dsimp only [Pt.U, Pt.locs, Pt.cells, Pt.slots] at X166 l166 y166 z166 st166 hQ166
  subst l166 y166 z166
  obtain ⟨rfl, N166q, e166⟩ := hQ166
  have N166 := Fr.app N165 N166q
  obtain ⟨T167, h167, X167, e167, W167, st167⟩ := putF X166 hx hZ hown (host := "") (Or.inl (hw _ (List.mem_of_getElem? (i := 28) rfl))) Via.refl e166 F_file'158 E_a'157 (Or.inr ⟨(hw _ (List.mem_of_getElem? (i := 29) rfl)), rfl, hnm⟩) (hw _ (List.mem_of_getElem? (i := 1) rfl)) (ty := (.object "java/lang/String")) (by decide) rfl rfl (g := (mkF m 68 #[.val (.ref a0x), .val (.ref a1), .val (.int (1 : Int32)), .val (.int (1 : Int32))] [(.ref a1), (.ref a0x)])) rfl rfl (hb hby d1_68)
  have Fw167 := F_file'158.same W167
  have E_a'168 := E_a'157.wr W167
  have F_line'169 := F_line'159.other W167 (Or.inr (slot_ne (Or.inr (hw _ (List.mem_of_getElem? (i := 31) rfl))) (Or.inr (hw _ (List.mem_of_getElem? (i := 29) rfl))) (by decide) (t := .int) (t' := (.object "java/lang/String")) (by decide) (by decide)))
  have F_column'170 := F_column'160.other W167 (Or.inr (slot_ne (Or.inr (hw _ (List.mem_of_getElem? (i := 33) rfl))) (Or.inr (hw _ (List.mem_of_getElem? (i := 29) rfl))) (by decide) (t := .int) (t' := (.object "java/lang/String")) (by decide) (by decide)))
  have E_1'171 := E_1'161.wr W167
  have FV'172 := FV'162.other W167 (Or.inl ne1)
  have VB'173 := VB'163.other W167 ne2
  have Z_174 : n0 ≤ h167.size := Nat.le_trans Z_164 (Nat.le_of_eq (Wr.size W167).symm)
  have hk_175 := Nat.le_trans hk156 (Nat.le_of_eq (Wr.size W167).symm)
  have N167 := Fr.snoc X167 N166 g_a
  have K167 : Keep h0 h167 [a0x] := K156.wr W167 (Or.inl (List.mem_of_getElem? (i := 0) rfl))
  obtain ⟨T176, h176, X176, e176, W176, st176⟩ := putF X167 hx hZ hown (host := "") (Or.inl (hw _ (List.mem_of_getElem? (i := 30) rfl))) Via.refl e167 F_line'169 E_a'168 (Or.inr ⟨(hw _ (List.mem_of_getElem? (i := 31) rfl)), rfl, hnm⟩) (hw _ (List.mem_of_getElem? (i := 1) rfl)) (ty := .int) (by decide) rfl rfl (g := (mkF m 73 #[.val (.ref a0x), .val (.ref a1), .val (.int (1 : Int32)), .val (.int (1 : Int32))] [(.int (1 : Int32)), (.ref a0x)])) rfl rfl (hb hby d1_73)
  have Fw176 := F_line'169.same W176
  have E_a'177 := E_a'168.wr W176
  have Fw167'178 := Fw167.other W176 (Or.inr (slot_ne (Or.inr (hw _ (List.mem_of_getElem? (i := 29) rfl))) (Or.inr (hw _ (List.mem_of_getElem? (i := 31) rfl))) (by decide) (t := (.object "java/lang/String")) (t' := .int) (by decide) (by decide)))
  have F_column'179 := F_column'170.other W176 (Or.inr (slot_ne (Or.inr (hw _ (List.mem_of_getElem? (i := 33) rfl))) (Or.inr (hw _ (List.mem_of_getElem? (i := 31) rfl))) (by decide) (t := .int) (t' := .int) (by decide) (by decide)))
  have E_1'180 := E_1'171.wr W176
  have FV'181 := FV'172.other W176 (Or.inl ne1)
  have VB'182 := VB'173.other W176 ne2
  have Z_183 : n0 ≤ h176.size := Nat.le_trans Z_174 (Nat.le_of_eq (Wr.size W176).symm)
  have hk_184 := Nat.le_trans hk_175 (Nat.le_of_eq (Wr.size W176).symm)
  have N176 := Fr.snoc X176 N167 g_a
  have K176 : Keep h0 h176 [a0x] := K167.wr W176 (Or.inl (List.mem_of_getElem? (i := 0) rfl))
  obtain ⟨T185, h185, X185, e185, W185, st185⟩ := putF X176 hx hZ hown (host := "") (Or.inl (hw _ (List.mem_of_getElem? (i := 32) rfl))) Via.refl e176 F_column'179 E_a'177 (Or.inr ⟨(hw _ (List.mem_of_getElem? (i := 33) rfl)), rfl, hnm⟩) (hw _ (List.mem_of_getElem? (i := 1) rfl)) (ty := .int) (by decide) rfl rfl (g := (mkF m 78 #[.val (.ref a0x), .val (.ref a1), .val (.int (1 : Int32)), .val (.int (1 : Int32))] [(.int (1 : Int32)), (.ref a0x)])) rfl rfl (hb hby d1_78)
  have Fw185 := F_column'179.same W185
  have E_a'186 := E_a'177.wr W185
  have Fw167'187 := Fw167'178.other W185 (Or.inr (slot_ne (Or.inr (hw _ (List.mem_of_getElem? (i := 29) rfl))) (Or.inr (hw _ (List.mem_of_getElem? (i := 33) rfl))) (by decide) (t := (.object "java/lang/String")) (t' := .int) (by decide) (by decide)))
  have Fw176'188 := Fw176.other W185 (Or.inr (slot_ne (Or.inr (hw _ (List.mem_of_getElem? (i := 31) rfl))) (Or.inr (hw _ (List.mem_of_getElem? (i := 33) rfl))) (by decide) (t := .int) (t' := .int) (by decide) (by decide)))
  have E_1'189 := E_1'180.wr W185
  have FV'190 := FV'181.other W185 (Or.inl ne1)
  have VB'191 := VB'182.other W185 ne2
  have Z_192 : n0 ≤ h185.size := Nat.le_trans Z_183 (Nat.le_of_eq (Wr.size W185).symm)
  have hk_193 := Nat.le_trans hk_184 (Nat.le_of_eq (Wr.size W185).symm)
  have N185 := Fr.snoc X185 N176 g_a
  have K185 : Keep h0 h185 [a0x] := K176.wr W185 (Or.inl (List.mem_of_getElem? (i := 0) rfl))
  have k194 : ∀ t, Steps p.tables e below (T185.setTop (mkF m 81 #[.val (.ref a0x), .val (.ref a1), .val (.int (1 : Int32)), .val (.int (1 : Int32))] [])) t → Steps p.tables e below (s₁.setTop (entryFrame m #[(.ref a0x), (.ref a1), (.int (1 : Int32)), (.int (1 : Int32))] 4)) t := fun t kt => k155 t (by
      let A0 : Array Slot := #[.val (.ref a0x), .val (.ref a1), .val (.int (1 : Int32)), .val (.int (1 : Int32))]
      show Steps p.tables e below (T154.setTop (mkF m 5 A0 [(.ref a1)])) _
      refine st156 _ ?_
      show Steps p.tables e below (T156.setTop (mkF m 7 A0 [(.ref b156), (.ref a1)])) _
      refine st165 _ ?_
      show Steps p.tables e below (T165.setTop (mkF m 10 A0 [(.ref a1)])) _
      refine XS.pop X165.here hx rfl (hb hby d1_10) rfl rfl ?_
      show Steps p.tables e below (T165.setTop (mkF m 11 A0 [])) _
      refine XS.aloadN X165.here hx rfl (hb hby d1_11) rfl rfl ?_
      show Steps p.tables e below (T165.setTop (mkF m 12 A0 [(.ref a1)])) _
      refine st166.trans ?_
      show Steps p.tables e below (T166.setTop (mkF m 15 A0 [(.int (0 : Int32))])) _
      refine XS.ifYes X166.here hx rfl (pc0 := 15) (pc' := 28) rfl (hb hby d1_15) rfl ((if0 _ _).trans (teq (by decide : (0 : Int32) = (0 : Int32))).1) (by decide) (by decide) ?_
      show Steps p.tables e below (T166.setTop (mkF m 28 A0 [])) _
      refine XS.iloadN X166.here hx rfl (hb hby d1_28) rfl ?_
      show Steps p.tables e below (T166.setTop (mkF m 29 A0 [(.int (1 : Int32))])) _
      refine XS.iconst X166.here hx rfl (hb hby d1_29) ?_
      show Steps p.tables e below (T166.setTop (mkF m 30 A0 [(.int (1 : Int32)), (.int (1 : Int32))])) _
      refine XS.icmpYes X166.here hx rfl (pc0 := 30) (pc' := 47) rfl (hb hby d1_30) rfl (flt (by decide : ¬ ((1 : Int32) < (1 : Int32)))).2.1 (by decide) (by decide) ?_
      show Steps p.tables e below (T166.setTop (mkF m 47 A0 [])) _
      refine XS.iloadN X166.here hx rfl (hb hby d1_47) rfl ?_
      show Steps p.tables e below (T166.setTop (mkF m 48 A0 [(.int (1 : Int32))])) _
      refine XS.iconst X166.here hx rfl (hb hby d1_48) ?_
      show Steps p.tables e below (T166.setTop (mkF m 49 A0 [(.int (1 : Int32)), (.int (1 : Int32))])) _
      refine XS.icmpYes X166.here hx rfl (pc0 := 49) (pc' := 66) rfl (hb hby d1_49) rfl (flt (by decide : ¬ ((1 : Int32) < (1 : Int32)))).2.1 (by decide) (by decide) ?_
      show Steps p.tables e below (T166.setTop (mkF m 66 A0 [])) _
      refine XS.aloadN X166.here hx rfl (hb hby d1_66) rfl rfl ?_
      show Steps p.tables e below (T166.setTop (mkF m 67 A0 [(.ref a0x)])) _
      refine XS.aloadN X166.here hx rfl (hb hby d1_67) rfl rfl ?_
      show Steps p.tables e below (T166.setTop (mkF m 68 A0 [(.ref a1), (.ref a0x)])) _
      refine st167 _ ?_
      show Steps p.tables e below (T167.setTop (mkF m 71 A0 [])) _
      refine XS.aloadN X167.here hx rfl (hb hby d1_71) rfl rfl ?_
      show Steps p.tables e below (T167.setTop (mkF m 72 A0 [(.ref a0x)])) _
      refine XS.iloadN X167.here hx rfl (hb hby d1_72) rfl ?_
      show Steps p.tables e below (T167.setTop (mkF m 73 A0 [(.int (1 : Int32)), (.ref a0x)])) _
      refine st176 _ ?_
      show Steps p.tables e below (T176.setTop (mkF m 76 A0 [])) _
      refine XS.aloadN X176.here hx rfl (hb hby d1_76) rfl rfl ?_
      show Steps p.tables e below (T176.setTop (mkF m 77 A0 [(.ref a0x)])) _
      refine XS.iloadN X176.here hx rfl (hb hby d1_77) rfl ?_
      show Steps p.tables e below (T176.setTop (mkF m 78 A0 [(.int (1 : Int32)), (.ref a0x)])) _
      refine st185 _ ?_
      exact kt)
  obtain ⟨fs, hr, hrun, hended, hRW⟩ := X185.leaveW hS156 (by rw [e185]; exact hk_193) (v := none) (fun _ => rfl)
  refine ⟨_, _, k194 _ ?_, hrun, hended, _, _, rfl, ?_, hRW.1, hRW.2.1, hRW.2.2.1, hRW.2.2.2.mono (by decide) (by decide)⟩
  · show Steps p.tables e below (T185.setTop (mkF m 81 #[.val (.ref a0x), .val (.ref a1), .val (.int (1 : Int32)), .val (.int (1 : Int32))] [])) _
    exact X185.returnOut hx Bd.returns (hb hby d1_81) hr
  · show Q_rm1 Z a0x h0 n0 _ T185.heap _
    rw [e185]
    exact ⟨rfl, N185, K185⟩
theorem d13_0 : decode jdk_38_method_6_code 0 = .ok (.aload_n 0, 1) := by decide +kernel
theorem d13_1 : decode jdk_38_method_6_code 1 = .ok (.getfield 9, 3) := by decide +kernel
theorem d13_4 : decode jdk_38_method_6_code 4 = .ok (.arraylength, 1) := by decide +kernel
theorem d13_5 : decode jdk_38_method_6_code 5 = .ok (.istore_n 2, 1) := by decide +kernel
theorem d13_6 : decode jdk_38_method_6_code 6 = .ok (.iload_n 2, 1) := by decide +kernel
theorem d13_7 : decode jdk_38_method_6_code 7 = .ok (.ifCond .gt 13, 3) := by decide +kernel
theorem d13_10 : decode jdk_38_method_6_code 10 = .ok (.aload_n 0, 1) := by decide +kernel
theorem d13_11 : decode jdk_38_method_6_code 11 = .ok (.getfield 9, 3) := by decide +kernel
theorem d13_14 : decode jdk_38_method_6_code 14 = .ok (.getstatic 39, 3) := by decide +kernel
theorem d13_17 : decode jdk_38_method_6_code 17 = .ok (.if_acmp .eq 28, 3) := by decide +kernel
theorem d13_45 : decode jdk_38_method_6_code 45 = .ok (.aload_n 0, 1) := by decide +kernel
theorem d13_46 : decode jdk_38_method_6_code 46 = .ok (.bipush 10, 2) := by decide +kernel
theorem d13_48 : decode jdk_38_method_6_code 48 = .ok (.iload_n 1, 1) := by decide +kernel
theorem pd_3 : parseMethodDescriptor "(II)I" = some ⟨[.int, .int], some .int⟩ := by decide +kernel
theorem d13_49 : decode jdk_38_method_6_code 49 = .ok (.invokestatic 79, 3) := by decide +kernel
theorem d13_52 : decode jdk_38_method_6_code 52 = .ok (.anewarray 7, 3) := by decide +kernel
theorem d13_55 : decode jdk_38_method_6_code 55 = .ok (.dup_x1, 1) := by decide +kernel
theorem d13_56 : decode jdk_38_method_6_code 56 = .ok (.putfield 9, 3) := by decide +kernel
theorem d13_59 : decode jdk_38_method_6_code 59 = .ok (.areturn, 1) := by decide +kernel
theorem ef_rm13 (m : MethodId) (x0 : Addr) (x1 : Int32) : entryFrame m #[(.ref x0), (.int x1)] 4 = mkF m 0 #[.val (.ref x0), .val (.int x1), .unset, .unset] [] := by first | (simp [entryFrame, mkF, argsToLocals, Value.category]; done) | rfl
def Q_rm13 (Z : State) (a0x : Addr) (mc : Int32) (h0 : Heap) (n0 : Nat) (v : Option Value) (h : Heap) (L : List Loc) : Prop := ∃ na : Addr, v = some (.ref na) ∧ Fr n0 L ∧ Keep h0 h [a0x] ∧ h0.size ≤ na ∧ n0 ≤ na ∧ own_A Z h na ∧ Exa Z h a0x "java/util/ArrayList" ∧ Fld Z h a0x "java/util/AbstractList" "modCount" "I" (.int mc) ∧ Fld Z h a0x "java/util/ArrayList" "size" "I" (.int (0 : Int32)) ∧ Fld Z h a0x "java/util/ArrayList" "elementData" "[Ljava/lang/Object;" (.ref na)
set_option maxRecDepth 65536 in
set_option maxHeartbeats 40000000 in
theorem rm13 (l : Launch) (Z : State) (a0 : Array Value) (hw : ∀ d ∈ tables_1, d.before a0 Z = true) (ws : List Jvm.Cond) (a0x dfl : Addr) (cd : Cell) (mc : Int32) (h0 : Heap) (n0 : Nat) (Z0 : n0 ≤ h0.size) (E_a : Exa Z h0 a0x "java/util/ArrayList") (g_a : n0 ≤ a0x) (F_modCount : Fld Z h0 a0x "java/util/AbstractList" "modCount" "I" (.int mc)) (F_size : Fld Z h0 a0x "java/util/ArrayList" "size" "I" (.int (0 : Int32))) (F_elementData : Fld Z h0 a0x "java/util/ArrayList" "elementData" "[Ljava/lang/Object;" (.ref dfl)) (O0 : Old Z n0 h0) (SD : Sta Z Z.heap "java/util/ArrayList" "DEFAULTCAPACITY_EMPTY_ELEMENTDATA" "[Ljava/lang/Object;" (.ref dfl)) (DA : Arr Z Z.heap dfl cd (.object "java/lang/Object")) (DS : cd.slots.size = (0 : Int32).toNatClampNeg) :
    MetFree l (⟨"java/util/ArrayList", "grow", "(I)[Ljava/lang/Object;"⟩ : MethodName) (head1 (Jvm.Cond.code (⟨"java/util/ArrayList", "grow", "(I)[Ljava/lang/Object;"⟩ : MethodName) jdk_38_method_6_code 4 (some (.array (.object "java/lang/Object"))) :: ws) ({ frames := 1, cells := 1, slots := 10, locals := 14 } : Room)) (fun a U => a = #[(.ref a0x), (.int ((0 : Int32) + (1 : Int32)))] ∧ Z.Warmed39 U.vm ∧ U.heap = h0) (fun _ _ _ _ _ => True) (fun _ U o U' => ∃ v L, o = .returned v ∧ Q_rm13 Z a0x mc h0 n0 v U'.heap L ∧ FrameEnd U o U' L ({ frames := 1, cells := 1, slots := 10, locals := 14 } : Room).cells ({ frames := 1, cells := 1, slots := 10, locals := 14 } : Room).slots) := by
  refine MetFree.of_bodySF (plainFor_of_name pn_c4) hisR ?_
  intro p e s m args below meth c s₁ Bd hml0 hP hK
  obtain ⟨rfl, hZ, hh⟩ := hP
  have hx := Bd.exec
  have hby := Bd.bytes
  have hml : c.maxLocals = 4 := hml0
  have hown : s.vm.findClass "java/util/ArrayList" = some m.cls := findClass_of_methodNamed Bd.named
  have hnm := (name_of_methodNamed Bd.named Bd.method).1
  have X0 : Stand p l e ({ frames := 1, cells := 1, slots := 10, locals := 14 } : Room) s m #[(.ref a0x), (.int ((0 : Int32) + (1 : Int32)))] below meth c s₁ [] 0 0 := Stand.of_body Bd
  have e0 : s₁.heap = h0 := by rw [← hh, Bd.state]; rfl
  have N0 := Fr.nil n0
  have pre0 : ∀ t, Steps p.tables e below (s₁.setTop (mkF m 0 #[.val (.ref a0x), .val (.int ((0 : Int32) + (1 : Int32))), .unset, .unset] [])) t → Steps p.tables e below (s₁.setTop (entryFrame m #[(.ref a0x), (.int ((0 : Int32) + (1 : Int32)))] 4)) t := fun t k => castTop (ef_rm13 m a0x ((0 : Int32) + (1 : Int32))) k
  obtain ⟨T195, X195, e195, st195⟩ := getF X0 hx hZ hown (host := "") (Or.inl (hw _ (List.mem_of_getElem? (i := 65) rfl))) Via.refl e0 F_elementData (g := (mkF m 1 #[.val (.ref a0x), .val (.int ((0 : Int32) + (1 : Int32))), .unset, .unset] [(.ref a0x)])) rfl rfl (hb hby d13_1)
  have Ad196 := DA.ext O0.2
  obtain ⟨T197, X197, e197, st197⟩ := getF X195 hx hZ hown (host := "") (Or.inl (hw _ (List.mem_of_getElem? (i := 65) rfl))) Via.refl e195 F_elementData (g := (mkF m 11 #[.val (.ref a0x), .val (.int ((0 : Int32) + (1 : Int32))), .val (.int (0 : Int32)), .unset] [(.ref a0x)])) rfl rfl (hb hby d13_11)
  obtain ⟨T198, X198, e198, st198⟩ := getS2 X197 hx hZ hown (host := "") (Or.inl (hw _ (List.mem_of_getElem? (i := 64) rfl))) Via.refl e197 (Sta.ext O0.2 SD) (g := (mkF m 14 #[.val (.ref a0x), .val (.int ((0 : Int32) + (1 : Int32))), .val (.int (0 : Int32)), .unset] [(.ref dfl)])) rfl (hb hby d13_14)
  obtain ⟨_, _, ⟨T199, L199, k199, n199⟩, -, X199, ⟨Lc199, hQ199, l199, y199, z199⟩, st199⟩ := Jvm.LawKit.callS X198 hx (y := (⟨"java/lang/Math", "max", "(II)I"⟩ : MethodName)) hown (mvT hZ (hw _ (List.mem_of_getElem? (i := 117) rfl))) (mvT hZ (hw _ (List.mem_of_getElem? (i := 118) rfl))) (mvT hZ (hw _ (List.mem_of_getElem? (i := 119) rfl))) (mvT hZ (hw _ (List.mem_of_getElem? (i := 120) rfl))) (by decide) (backOf (W := 1) (rm14 l Z a0 hw [] (10 : Int32) ((0 : Int32) + (1 : Int32)) h0 n0 Z0) hZ (hw _ (List.mem_of_getElem? (i := 120) rfl)) (hw _ (List.mem_of_getElem? (i := 119) rfl)) (by decide) (by decide)) (g := (mkF m 49 #[.val (.ref a0x), .val (.int ((0 : Int32) + (1 : Int32))), .val (.int (0 : Int32)), .unset] [(.int ((0 : Int32) + (1 : Int32))), (.int (10 : Int32)), (.ref a0x)])) rfl (by rw [hml]; rfl) (argsL := [(.int (10 : Int32)), (.int ((0 : Int32) + (1 : Int32)))]) (rest := [(.ref a0x)]) (lenOf pd_3 rfl) rfl (by show 2 * 0 + _ ≤ _; exact Nat.le_of_eq rfl) (hb hby d13_49) (fun _ _ => ⟨rfl, e198, (by decide : 0 + 0 ≤ _), (by decide : 0 + 0 ≤ _)⟩)
  dsimp only [Pt.U, Pt.locs, Pt.cells, Pt.slots] at X199 l199 y199 z199 st199 hQ199
  subst l199 y199 z199
  obtain ⟨rfl, N199q, e199⟩ := hQ199
  have N199 := Fr.app N0 N199q
  obtain ⟨T200, h200, kc200, X200, e200, E200, A200, O200, st200⟩ := newR X199 hx hZ hown (hw _ (List.mem_of_getElem? (i := 121) rfl)) (hw _ (List.mem_of_getElem? (i := 122) rfl)) e199 (g := (mkF m 52 #[.val (.ref a0x), .val (.int ((0 : Int32) + (1 : Int32))), .val (.int (0 : Int32)), .unset] [(.int (own_max (10 : Int32) ((0 : Int32) + (1 : Int32)))), (.ref a0x)])) rfl (hb hby d13_52) rfl (by decide) (cap := 10) (by decide) (by decide) (by decide) (by decide)
  obtain ⟨b200, g200⟩ : ∃ z, z = h0.size := ⟨_, rfl⟩
  rw [← g200] at A200 st200
  have ne_a0x_b200 : a0x ≠ b200 := Nat.ne_of_lt (Nat.lt_of_lt_of_le E_a.lt (Nat.le_of_eq g200.symm))
  have g_b200 : n0 ≤ b200 := Nat.le_trans Z0 (Nat.le_of_eq g200.symm)
  have sz_b200 : h0.size ≤ b200 := Nat.le_trans (Keep.refl h0 [a0x]).1 (Nat.le_of_eq g200.symm)
  have E_a'201 := E_a.ext E200
  have F_modCount'202 := F_modCount.ext E200
  have F_size'203 := F_size.ext E200
  have F_elementData'204 := F_elementData.ext E200
  have O0'205 := O0.ext E200
  have Z_206 : n0 ≤ h200.size := Nat.le_trans Z0 E200.1
  have K200 : Keep h0 h200 [a0x] := (Keep.refl h0 [a0x]).ext E200
  have G200 : own_A Z h200 b200 := ⟨_, A200, (sz_new _ _ _).trans (by decide), O200⟩
  obtain ⟨T207, h207, X207, e207, W207, st207⟩ := putF X200 hx hZ hown (host := "") (Or.inl (hw _ (List.mem_of_getElem? (i := 65) rfl))) Via.refl e200 F_elementData'204 E_a'201 (Or.inl (hw _ (List.mem_of_getElem? (i := 66) rfl))) (hw _ (List.mem_of_getElem? (i := 44) rfl)) (ty := (.array (.object "java/lang/Object"))) (by decide) rfl rfl (g := (mkF m 56 #[.val (.ref a0x), .val (.int ((0 : Int32) + (1 : Int32))), .val (.int (0 : Int32)), .unset] [(.ref b200), (.ref a0x), (.ref b200)])) rfl rfl (hb hby d13_56)
  have Fw207 := F_elementData'204.same W207
  have E_a'208 := E_a'201.wr W207
  have F_modCount'209 := F_modCount'202.other W207 (Or.inr (slot_ne (Or.inl (hw _ (List.mem_of_getElem? (i := 63) rfl))) (Or.inl (hw _ (List.mem_of_getElem? (i := 66) rfl))) (by decide) (t := .int) (t' := (.array (.object "java/lang/Object"))) (by decide) (by decide)))
  have F_size'210 := F_size'203.other W207 (Or.inr (slot_ne (Or.inl (hw _ (List.mem_of_getElem? (i := 101) rfl))) (Or.inl (hw _ (List.mem_of_getElem? (i := 66) rfl))) (by decide) (t := .int) (t' := (.array (.object "java/lang/Object"))) (by decide) (by decide)))
  have O0'211 := O0'205.wr W207 g_a
  have G200'212 := own_A.wr G200 W207
  have Z_213 : n0 ≤ h207.size := Nat.le_trans Z_206 (Nat.le_of_eq (Wr.size W207).symm)
  have N207 := Fr.snoc X207 N199 g_a
  have K207 : Keep h0 h207 [a0x] := K200.wr W207 (Or.inl (List.mem_of_getElem? (i := 0) rfl))
  have k214 : ∀ t, Steps p.tables e below (T207.setTop (mkF m 59 #[.val (.ref a0x), .val (.int ((0 : Int32) + (1 : Int32))), .val (.int (0 : Int32)), .unset] [(.ref b200)])) t → Steps p.tables e below (s₁.setTop (entryFrame m #[(.ref a0x), (.int ((0 : Int32) + (1 : Int32)))] 4)) t := fun t kt => pre0 t (by
      let A0 : Array Slot := #[.val (.ref a0x), .val (.int ((0 : Int32) + (1 : Int32))), .unset, .unset]
      show Steps p.tables e below (s₁.setTop (mkF m 0 A0 [])) _
      refine XS.aloadN X0.here hx rfl (hb hby d13_0) rfl rfl ?_
      show Steps p.tables e below (s₁.setTop (mkF m 1 A0 [(.ref a0x)])) _
      refine st195 _ ?_
      show Steps p.tables e below (T195.setTop (mkF m 4 A0 [(.ref dfl)])) _
      refine X195.arraylength hx (by rw [e195]; exact Ad196.1) (State.isArrayOf_alike hZ.alike Ad196.2.1) (g := (mkF m 4 A0 [(.ref dfl)])) rfl rfl (hb hby d13_4) _ ?_
      rw [len_of DS (by decide)]
      show Steps p.tables e below (T195.setTop (mkF m 5 A0 [(.int (0 : Int32))])) _
      let A1 : Array Slot := #[.val (.ref a0x), .val (.int ((0 : Int32) + (1 : Int32))), .val (.int (0 : Int32)), .unset]
      refine XS.istoreN X195.here hx rfl (hb hby d13_5) rfl (l' := A1) rfl ?_
      show Steps p.tables e below (T195.setTop (mkF m 6 A1 [])) _
      refine XS.iloadN X195.here hx rfl (hb hby d13_6) rfl ?_
      show Steps p.tables e below (T195.setTop (mkF m 7 A1 [(.int (0 : Int32))])) _
      refine XS.ifNo X195.here hx rfl (hb hby d13_7) rfl ((if0 _ _).trans (flt (by decide : ¬ ((0 : Int32) < (0 : Int32)))).2.2.1) ?_
      show Steps p.tables e below (T195.setTop (mkF m 10 A1 [])) _
      refine XS.aloadN X195.here hx rfl (hb hby d13_10) rfl rfl ?_
      show Steps p.tables e below (T195.setTop (mkF m 11 A1 [(.ref a0x)])) _
      refine st197 _ ?_
      show Steps p.tables e below (T197.setTop (mkF m 14 A1 [(.ref dfl)])) _
      refine st198 _ ?_
      show Steps p.tables e below (T198.setTop (mkF m 17 A1 [(.ref dfl), (.ref dfl)])) _
      refine Jvm.RoadKit.acmp (g := (mkF m 17 A1 [(.ref dfl), (.ref dfl)])) X198 hx rfl rfl rfl (pc0 := 17) (pc' := 45) (same := true) rfl (hb hby d13_17) rfl (decide_eq_true rfl) (by decide) (by decide) ?_
      show Steps p.tables e below (T198.setTop (mkF m 45 A1 [])) _
      refine XS.aloadN X198.here hx rfl (hb hby d13_45) rfl rfl ?_
      show Steps p.tables e below (T198.setTop (mkF m 46 A1 [(.ref a0x)])) _
      refine XS.bipush X198.here hx rfl (hb hby d13_46) ?_
      show Steps p.tables e below (T198.setTop (mkF m 48 A1 [(.int (10 : Int32)), (.ref a0x)])) _
      refine XS.iloadN X198.here hx rfl (hb hby d13_48) rfl ?_
      show Steps p.tables e below (T198.setTop (mkF m 49 A1 [(.int ((0 : Int32) + (1 : Int32))), (.int (10 : Int32)), (.ref a0x)])) _
      refine st199 _ ?_
      show Steps p.tables e below (T199.setTop (mkF m 52 A1 [(.int (own_max (10 : Int32) ((0 : Int32) + (1 : Int32)))), (.ref a0x)])) _
      refine st200 _ ?_
      show Steps p.tables e below (T200.setTop (mkF m 55 A1 [(.ref b200), (.ref a0x)])) _
      refine XS.dupX1 X200.here hx rfl (hb hby d13_55) rfl rfl rfl ?_
      show Steps p.tables e below (T200.setTop (mkF m 56 A1 [(.ref b200), (.ref a0x), (.ref b200)])) _
      refine st207 _ ?_
      exact kt)
  obtain ⟨fs, hr, hrun, hended, hW, hsame⟩ := X207.leave (v := some (.ref b200)) (fun h => by rw [Bd.returns] at h; cases h)
  refine ⟨_, _, k214 _ ?_, hrun, hended, _, _, rfl, ?_, ⟨_, rfl⟩, hW, hsame.mono (by decide) (by decide)⟩
  · show Steps p.tables e below (T207.setTop (mkF m 59 #[.val (.ref a0x), .val (.int ((0 : Int32) + (1 : Int32))), .val (.int (0 : Int32)), .unset] [(.ref b200)])) _
    jvm_step X207.here [X207.here.top, hx, (hb hby d13_59), X207.method', Bd.returns, Value.isRef, FieldType.isReference]
    first | (intro acts; rw [hr _ acts rfl rfl rfl]) | rw [hr _ _ rfl rfl rfl]
    exact Steps.refl _
  · show Q_rm13 Z a0x mc h0 n0 _ T207.heap _
    rw [e207]
    exact ⟨_, rfl, N207, K207, sz_b200, g_b200, G200'212, E_a'208, F_modCount'209, F_size'210, Fw207⟩
theorem d12_0 : decode jdk_38_method_7_code 0 = .ok (.aload_n 0, 1) := by decide +kernel
theorem d12_1 : decode jdk_38_method_7_code 1 = .ok (.aload_n 0, 1) := by decide +kernel
theorem d12_2 : decode jdk_38_method_7_code 2 = .ok (.getfield 48, 3) := by decide +kernel
theorem d12_5 : decode jdk_38_method_7_code 5 = .ok (.iconst 1, 1) := by decide +kernel
theorem d12_6 : decode jdk_38_method_7_code 6 = .ok (.iadd, 1) := by decide +kernel
theorem pd_4 : parseMethodDescriptor "(I)[Ljava/lang/Object;" = some ⟨[.int], some (.array (.object "java/lang/Object"))⟩ := by decide +kernel
theorem d12_7 : decode jdk_38_method_7_code 7 = .ok (.invokevirtual 69, 3) := by decide +kernel
theorem d12_10 : decode jdk_38_method_7_code 10 = .ok (.areturn, 1) := by decide +kernel
theorem ef_rm12 (m : MethodId) (x0 : Addr) : entryFrame m #[(.ref x0)] 1 = mkF m 0 #[.val (.ref x0)] [] := by first | (simp [entryFrame, mkF, argsToLocals, Value.category]; done) | rfl
def Q_rm12 (Z : State) (a0x : Addr) (mc : Int32) (h0 : Heap) (n0 : Nat) (v : Option Value) (h : Heap) (L : List Loc) : Prop := ∃ na : Addr, v = some (.ref na) ∧ Fr n0 L ∧ Keep h0 h [a0x] ∧ h0.size ≤ na ∧ n0 ≤ na ∧ own_A Z h na ∧ Exa Z h a0x "java/util/ArrayList" ∧ Fld Z h a0x "java/util/AbstractList" "modCount" "I" (.int mc) ∧ Fld Z h a0x "java/util/ArrayList" "size" "I" (.int (0 : Int32)) ∧ Fld Z h a0x "java/util/ArrayList" "elementData" "[Ljava/lang/Object;" (.ref na)
set_option maxRecDepth 65536 in
set_option maxHeartbeats 40000000 in
theorem rm12 (l : Launch) (Z : State) (a0 : Array Value) (hw : ∀ d ∈ tables_1, d.before a0 Z = true) (ws : List Jvm.Cond) (a0x dfl : Addr) (cd : Cell) (mc : Int32) (h0 : Heap) (n0 : Nat) (Z0 : n0 ≤ h0.size) (E_a : Exa Z h0 a0x "java/util/ArrayList") (g_a : n0 ≤ a0x) (F_modCount : Fld Z h0 a0x "java/util/AbstractList" "modCount" "I" (.int mc)) (F_size : Fld Z h0 a0x "java/util/ArrayList" "size" "I" (.int (0 : Int32))) (F_elementData : Fld Z h0 a0x "java/util/ArrayList" "elementData" "[Ljava/lang/Object;" (.ref dfl)) (O0 : Old Z n0 h0) (SD : Sta Z Z.heap "java/util/ArrayList" "DEFAULTCAPACITY_EMPTY_ELEMENTDATA" "[Ljava/lang/Object;" (.ref dfl)) (DA : Arr Z Z.heap dfl cd (.object "java/lang/Object")) (DS : cd.slots.size = (0 : Int32).toNatClampNeg) :
    MetFree l (⟨"java/util/ArrayList", "grow", "()[Ljava/lang/Object;"⟩ : MethodName) (head1 (Jvm.Cond.code (⟨"java/util/ArrayList", "grow", "()[Ljava/lang/Object;"⟩ : MethodName) jdk_38_method_7_code 1 (some (.array (.object "java/lang/Object"))) :: ws) ({ frames := 2, cells := 1, slots := 10, locals := 29 } : Room)) (fun a U => a = #[(.ref a0x)] ∧ Z.Warmed39 U.vm ∧ U.heap = h0) (fun _ _ _ _ _ => True) (fun _ U o U' => ∃ v L, o = .returned v ∧ Q_rm12 Z a0x mc h0 n0 v U'.heap L ∧ FrameEnd U o U' L ({ frames := 2, cells := 1, slots := 10, locals := 29 } : Room).cells ({ frames := 2, cells := 1, slots := 10, locals := 29 } : Room).slots) := by
  refine MetFree.of_bodySF (plainFor_of_name pn_c4) hisR ?_
  intro p e s m args below meth c s₁ Bd hml0 hP hK
  obtain ⟨rfl, hZ, hh⟩ := hP
  have hx := Bd.exec
  have hby := Bd.bytes
  have hml : c.maxLocals = 1 := hml0
  have hown : s.vm.findClass "java/util/ArrayList" = some m.cls := findClass_of_methodNamed Bd.named
  have hnm := (name_of_methodNamed Bd.named Bd.method).1
  have X0 : Stand p l e ({ frames := 2, cells := 1, slots := 10, locals := 29 } : Room) s m #[(.ref a0x)] below meth c s₁ [] 0 0 := Stand.of_body Bd
  have e0 : s₁.heap = h0 := by rw [← hh, Bd.state]; rfl
  have N0 := Fr.nil n0
  have pre0 : ∀ t, Steps p.tables e below (s₁.setTop (mkF m 0 #[.val (.ref a0x)] [])) t → Steps p.tables e below (s₁.setTop (entryFrame m #[(.ref a0x)] 1)) t := fun t k => castTop (ef_rm12 m a0x) k
  obtain ⟨T215, X215, e215, st215⟩ := getF X0 hx hZ hown (host := "") (Or.inl (hw _ (List.mem_of_getElem? (i := 100) rfl))) Via.refl e0 F_size (g := (mkF m 2 #[.val (.ref a0x)] [(.ref a0x), (.ref a0x)])) rfl rfl (hb hby d12_2)
  obtain ⟨cq216, q216, q216'⟩ := E_a.cell
  obtain ⟨_, _, ⟨T216, L216, k216, n216⟩, -, X216, ⟨Lc216, hQ216, l216, y216, z216⟩, st216⟩ := X215.privateBack hx (y := (⟨"java/util/ArrayList", "grow", "(I)[Ljava/lang/Object;"⟩ : MethodName)) hown (mvT hZ (hw _ (List.mem_of_getElem? (i := 112) rfl))) (mvT hZ (hw _ (List.mem_of_getElem? (i := 113) rfl))) (mvT hZ (hw _ (List.mem_of_getElem? (i := 115) rfl))) (Cond.privateMethod_at (mvP hZ (hw _ (List.mem_of_getElem? (i := 114) rfl)) (args := #[]))) (mvT hZ (hw _ (List.mem_of_getElem? (i := 116) rfl))) (by decide) (backOf (W := 0) (rm13 l Z a0 hw [] a0x dfl cd mc h0 n0 Z0 E_a g_a F_modCount F_size F_elementData O0 SD DA DS) hZ (hw _ (List.mem_of_getElem? (i := 116) rfl)) (hw _ (List.mem_of_getElem? (i := 45) rfl)) (by decide) (by decide)) (g := (mkF m 7 #[.val (.ref a0x)] [(.int ((0 : Int32) + (1 : Int32))), (.ref a0x)])) rfl (by rw [hml]; rfl) (Steps.refl _) (a := a0x) (by rw [e215]; exact q216) q216' (argsL := [(.int ((0 : Int32) + (1 : Int32)))]) (rest := []) (lenOf pd_4 rfl) rfl (by show 2 * 0 + _ ≤ _; exact Nat.le_of_eq rfl) (hb hby d12_7) (fun _ _ => ⟨rfl, e215, (by decide : 0 + 1 ≤ _), (by decide : 0 + 10 ≤ _)⟩)
  dsimp only [Pt.U, Pt.locs, Pt.cells, Pt.slots] at X216 l216 y216 z216 st216 hQ216
  subst l216 y216 z216
  obtain ⟨na216, rfl, N216q, Kq216, sz_na216, g_na216, Gna216, Eq216, Fq216_modCount, Fq216_size, Fq216_elementData⟩ := hQ216
  have N216 := Fr.app N0 N216q
  have K216 : Keep h0 T216.heap [a0x] := Keep.trans (Keep.refl h0 [a0x]) Kq216 (allS (Or.inl (List.mem_of_getElem? (i := 0) rfl)) all0)
  have sz_na216' : h0.size ≤ na216 := Nat.le_trans (Keep.refl h0 [a0x]).1 sz_na216
  have ne_a0x_na216 : a0x ≠ na216 := Nat.ne_of_lt (Nat.lt_of_lt_of_le E_a.lt sz_na216)
  have Z_217 : n0 ≤ T216.heap.size := Nat.le_trans Z0 Kq216.1
  have E_a'218 := E_a.keep Kq216
  have O0'219 := O0.keep Kq216 (allS g_a all0)
  have k220 : ∀ t, Steps p.tables e below (T216.setTop (mkF m 10 #[.val (.ref a0x)] [(.ref na216)])) t → Steps p.tables e below (s₁.setTop (entryFrame m #[(.ref a0x)] 1)) t := fun t kt => pre0 t (by
      show Steps p.tables e below (s₁.setTop (mkF m 0 #[.val (.ref a0x)] [])) _
      refine XS.aloadN X0.here hx rfl (hb hby d12_0) rfl rfl ?_
      show Steps p.tables e below (s₁.setTop (mkF m 1 #[.val (.ref a0x)] [(.ref a0x)])) _
      refine XS.aloadN X0.here hx rfl (hb hby d12_1) rfl rfl ?_
      show Steps p.tables e below (s₁.setTop (mkF m 2 #[.val (.ref a0x)] [(.ref a0x), (.ref a0x)])) _
      refine st215 _ ?_
      show Steps p.tables e below (T215.setTop (mkF m 5 #[.val (.ref a0x)] [(.int (0 : Int32)), (.ref a0x)])) _
      refine XS.iconst X215.here hx rfl (hb hby d12_5) ?_
      show Steps p.tables e below (T215.setTop (mkF m 6 #[.val (.ref a0x)] [(.int (1 : Int32)), (.int (0 : Int32)), (.ref a0x)])) _
      refine XS.iadd X215.here hx rfl (hb hby d12_6) rfl ?_
      show Steps p.tables e below (T215.setTop (mkF m 7 #[.val (.ref a0x)] [(.int ((0 : Int32) + (1 : Int32))), (.ref a0x)])) _
      refine st216.trans ?_
      exact kt)
  obtain ⟨fs, hr, hrun, hended, hW, hsame⟩ := X216.leave (v := some (.ref na216)) (fun h => by rw [Bd.returns] at h; cases h)
  refine ⟨_, _, k220 _ ?_, hrun, hended, _, _, rfl, ?_, ⟨_, rfl⟩, hW, hsame.mono (by decide) (by decide)⟩
  · show Steps p.tables e below (T216.setTop (mkF m 10 #[.val (.ref a0x)] [(.ref na216)])) _
    jvm_step X216.here [X216.here.top, hx, (hb hby d12_10), X216.method', Bd.returns, Value.isRef, FieldType.isReference]
    first | (intro acts; rw [hr _ acts rfl rfl rfl]) | rw [hr _ _ rfl rfl rfl]
    exact Steps.refl _
  · show Q_rm12 Z a0x mc h0 n0 _ T216.heap _
    exact ⟨_, rfl, N216, K216, sz_na216', g_na216, Gna216, Eq216, Fq216_modCount, Fq216_size, Fq216_elementData⟩
theorem d11_0 : decode jdk_38_method_24_code 0 = .ok (.iload_n 3, 1) := by decide +kernel
theorem d11_1 : decode jdk_38_method_24_code 1 = .ok (.aload_n 2, 1) := by decide +kernel
theorem d11_2 : decode jdk_38_method_24_code 2 = .ok (.arraylength, 1) := by decide +kernel
theorem d11_3 : decode jdk_38_method_24_code 3 = .ok (.if_icmp .ne 8, 3) := by decide +kernel
theorem d11_6 : decode jdk_38_method_24_code 6 = .ok (.aload_n 0, 1) := by decide +kernel
theorem pd_5 : parseMethodDescriptor "()[Ljava/lang/Object;" = some ⟨[], some (.array (.object "java/lang/Object"))⟩ := by decide +kernel
theorem d11_7 : decode jdk_38_method_24_code 7 = .ok (.invokevirtual 129, 3) := by decide +kernel
theorem d11_10 : decode jdk_38_method_24_code 10 = .ok (.astore_n 2, 1) := by decide +kernel
theorem d11_11 : decode jdk_38_method_24_code 11 = .ok (.aload_n 2, 1) := by decide +kernel
theorem d11_12 : decode jdk_38_method_24_code 12 = .ok (.iload_n 3, 1) := by decide +kernel
theorem d11_13 : decode jdk_38_method_24_code 13 = .ok (.aload_n 1, 1) := by decide +kernel
theorem d11_14 : decode jdk_38_method_24_code 14 = .ok (.aastore, 1) := by decide +kernel
theorem d11_15 : decode jdk_38_method_24_code 15 = .ok (.aload_n 0, 1) := by decide +kernel
theorem d11_16 : decode jdk_38_method_24_code 16 = .ok (.iload_n 3, 1) := by decide +kernel
theorem d11_17 : decode jdk_38_method_24_code 17 = .ok (.iconst 1, 1) := by decide +kernel
theorem d11_18 : decode jdk_38_method_24_code 18 = .ok (.iadd, 1) := by decide +kernel
theorem d11_19 : decode jdk_38_method_24_code 19 = .ok (.putfield 48, 3) := by decide +kernel
theorem d11_22 : decode jdk_38_method_24_code 22 = .ok (.return_, 1) := by decide +kernel
theorem ef_rm11_0 (m : MethodId) (x0 : Addr) (x1 : Addr) (x2 : Addr) (x3 : Int32) : entryFrame m #[(.ref x0), (.ref x1), (.ref x2), (.int x3)] 4 = mkF m 0 #[.val (.ref x0), .val (.ref x1), .val (.ref x2), .val (.int x3)] [] := by first | (simp [entryFrame, mkF, argsToLocals, Value.category]; done) | rfl
def Q_rm11_0 (Z : State) (a0x : Addr) (mc : Int32) (h0 : Heap) (n0 : Nat) (v : Option Value) (h : Heap) (L : List Loc) : Prop := v = none ∧ Fr n0 L ∧ Keep h0 h [a0x] ∧ Exa Z h a0x "java/util/ArrayList" ∧ ∃ na : Addr, n0 ≤ na ∧ own_A Z h na ∧ Fld Z h a0x "java/util/AbstractList" "modCount" "I" (.int mc) ∧ Fld Z h a0x "java/util/ArrayList" "size" "I" (.int ((0 : Int32) + (1 : Int32))) ∧ Fld Z h a0x "java/util/ArrayList" "elementData" "[Ljava/lang/Object;" (.ref na)
set_option maxRecDepth 65536 in
set_option maxHeartbeats 40000000 in
theorem rm11_0 (l : Launch) (Z : State) (a0 : Array Value) (hw : ∀ d ∈ tables_1, d.before a0 Z = true) (ws : List Jvm.Cond) (a0x x dfl : Addr) (cd : Cell) (mc : Int32) (h0 : Heap) (n0 : Nat) (Z0 : n0 ≤ h0.size) (E_a : Exa Z h0 a0x "java/util/ArrayList") (g_a : n0 ≤ a0x) (F_modCount : Fld Z h0 a0x "java/util/AbstractList" "modCount" "I" (.int mc)) (F_size : Fld Z h0 a0x "java/util/ArrayList" "size" "I" (.int (0 : Int32))) (F_elementData : Fld Z h0 a0x "java/util/ArrayList" "elementData" "[Ljava/lang/Object;" (.ref dfl)) (O0 : Old Z n0 h0) (SD : Sta Z Z.heap "java/util/ArrayList" "DEFAULTCAPACITY_EMPTY_ELEMENTDATA" "[Ljava/lang/Object;" (.ref dfl)) (DA : Arr Z Z.heap dfl cd (.object "java/lang/Object")) (DS : cd.slots.size = (0 : Int32).toNatClampNeg) (E_x : Exa Z h0 x "com/example/arthurs_seat/arthursseat/language/Junction") :
    MetFree l (⟨"java/util/ArrayList", "add", "(Ljava/lang/Object;[Ljava/lang/Object;I)V"⟩ : MethodName) (head1 (Jvm.Cond.code (⟨"java/util/ArrayList", "add", "(Ljava/lang/Object;[Ljava/lang/Object;I)V"⟩ : MethodName) jdk_38_method_24_code 4 none :: ws) ({ frames := 3, cells := 1, slots := 10, locals := 41 } : Room)) (fun a U => a = #[(.ref a0x), (.ref x), (.ref dfl), (.int (0 : Int32))] ∧ Z.Warmed39 U.vm ∧ U.heap = h0) (fun _ _ _ _ _ => True) (fun _ U o U' => ∃ v L, o = .returned v ∧ Q_rm11_0 Z a0x mc h0 n0 v U'.heap L ∧ FrameEnd U o U' L ({ frames := 3, cells := 1, slots := 10, locals := 41 } : Room).cells ({ frames := 3, cells := 1, slots := 10, locals := 41 } : Room).slots) := by
  refine MetFree.of_bodySF (plainFor_of_name pn_c4) hisR ?_
  intro p e s m args below meth c s₁ Bd hml0 hP hK
  obtain ⟨rfl, hZ, hh⟩ := hP
  have hx := Bd.exec
  have hby := Bd.bytes
  have hml : c.maxLocals = 4 := hml0
  have hown : s.vm.findClass "java/util/ArrayList" = some m.cls := findClass_of_methodNamed Bd.named
  have hnm := (name_of_methodNamed Bd.named Bd.method).1
  have X0 : Stand p l e ({ frames := 3, cells := 1, slots := 10, locals := 41 } : Room) s m #[(.ref a0x), (.ref x), (.ref dfl), (.int (0 : Int32))] below meth c s₁ [] 0 0 := Stand.of_body Bd
  have e0 : s₁.heap = h0 := by rw [← hh, Bd.state]; rfl
  have N0 := Fr.nil n0
  have pre0 : ∀ t, Steps p.tables e below (s₁.setTop (mkF m 0 #[.val (.ref a0x), .val (.ref x), .val (.ref dfl), .val (.int (0 : Int32))] [])) t → Steps p.tables e below (s₁.setTop (entryFrame m #[(.ref a0x), (.ref x), (.ref dfl), (.int (0 : Int32))] 4)) t := fun t k => castTop (ef_rm11_0 m a0x x dfl (0 : Int32)) k
  have ne_a : a0x ≠ x := ne_exa E_a E_x (by decide)
  have Ad221 := DA.ext O0.2
  obtain ⟨cq222, q222, q222'⟩ := E_a.cell
  obtain ⟨_, _, ⟨T222, L222, k222, n222⟩, -, X222, ⟨Lc222, hQ222, l222, y222, z222⟩, st222⟩ := X0.privateBack hx (y := (⟨"java/util/ArrayList", "grow", "()[Ljava/lang/Object;"⟩ : MethodName)) hown (mvT hZ (hw _ (List.mem_of_getElem? (i := 107) rfl))) (mvT hZ (hw _ (List.mem_of_getElem? (i := 108) rfl))) (mvT hZ (hw _ (List.mem_of_getElem? (i := 110) rfl))) (Cond.privateMethod_at (mvP hZ (hw _ (List.mem_of_getElem? (i := 109) rfl)) (args := #[]))) (mvT hZ (hw _ (List.mem_of_getElem? (i := 111) rfl))) (by decide) (backOf (W := 0) (rm12 l Z a0 hw [] a0x dfl cd mc h0 n0 Z0 E_a g_a F_modCount F_size F_elementData O0 SD DA DS) hZ (hw _ (List.mem_of_getElem? (i := 111) rfl)) (hw _ (List.mem_of_getElem? (i := 45) rfl)) (by decide) (by decide)) (g := (mkF m 7 #[.val (.ref a0x), .val (.ref x), .val (.ref dfl), .val (.int (0 : Int32))] [(.ref a0x)])) rfl (by rw [hml]; rfl) (Steps.refl _) (a := a0x) (by rw [e0]; exact q222) q222' (argsL := []) (rest := []) (lenOf pd_5 rfl) rfl (by show 2 * 0 + _ ≤ _; exact Nat.le_of_eq rfl) (hb hby d11_7) (fun _ _ => ⟨rfl, e0, (by decide : 0 + 1 ≤ _), (by decide : 0 + 10 ≤ _)⟩)
  dsimp only [Pt.U, Pt.locs, Pt.cells, Pt.slots] at X222 l222 y222 z222 st222 hQ222
  subst l222 y222 z222
  obtain ⟨na222, rfl, N222q, Kq222, sz_na222, g_na222, Gna222, Eq222, Fq222_modCount, Fq222_size, Fq222_elementData⟩ := hQ222
  have N222 := Fr.app N0 N222q
  have K222 : Keep h0 T222.heap [a0x] := Keep.trans (Keep.refl h0 [a0x]) Kq222 (allS (Or.inl (List.mem_of_getElem? (i := 0) rfl)) all0)
  have sz_na222' : h0.size ≤ na222 := Nat.le_trans (Keep.refl h0 [a0x]).1 sz_na222
  have ne_a0x_na222 : a0x ≠ na222 := Nat.ne_of_lt (Nat.lt_of_lt_of_le E_a.lt sz_na222)
  have ne_x_na222 : x ≠ na222 := Nat.ne_of_lt (Nat.lt_of_lt_of_le E_x.lt sz_na222)
  have Z_223 : n0 ≤ T222.heap.size := Nat.le_trans Z0 Kq222.1
  have E_a'224 := E_a.keep Kq222
  have O0'225 := O0.keep Kq222 (allS g_a all0)
  have E_x'226 := E_x.keep Kq222
  obtain ⟨cl227, Ar227, S227, Ov227⟩ := id Gna222
  have hin227 : ¬ ((0 : Int32) < 0 ∨ cl227.slots.size ≤ ((0 : Int32)).toNatClampNeg) := inb_of S227 ⟨by decide, by decide⟩
  obtain ⟨T227, h227, X227, e227, W227, st227⟩ := stR X222 hx hZ rfl Ar227 (j := (0 : Int32)) hin227 rfl (Sto.of Ar227 Ov227 (Ins.of_exa E_x'226 (hw _ (List.mem_of_getElem? (i := 123) rfl)))) (g := (mkF m 14 #[.val (.ref a0x), .val (.ref x), .val (.ref na222), .val (.int (0 : Int32))] [(.ref x), (.int (0 : Int32)), (.ref na222)])) rfl rfl (hb hby d11_14)
  have Eq222'228 := Eq222.wr W227
  have O0'229 := O0'225.wr W227 g_na222
  have E_x'230 := E_x'226.wr W227
  have Gna222'231 := own_A.wr Gna222 W227
  have Fq222_modCount'232 := Fq222_modCount.other W227 (Or.inl ne_a0x_na222)
  have Fq222_size'233 := Fq222_size.other W227 (Or.inl ne_a0x_na222)
  have Fq222_elementData'234 := Fq222_elementData.other W227 (Or.inl ne_a0x_na222)
  have Z_235 : n0 ≤ h227.size := Nat.le_trans Z_223 (Nat.le_of_eq (Wr.size W227).symm)
  have N227 := Fr.snoc X227 N222 g_na222
  have K227 : Keep h0 h227 [a0x] := K222.wr W227 (Or.inr sz_na222')
  obtain ⟨T236, h236, X236, e236, W236, st236⟩ := putF X227 hx hZ hown (host := "") (Or.inl (hw _ (List.mem_of_getElem? (i := 100) rfl))) Via.refl e227 Fq222_size'233 Eq222'228 (Or.inl (hw _ (List.mem_of_getElem? (i := 101) rfl))) (hw _ (List.mem_of_getElem? (i := 44) rfl)) (ty := .int) (by decide) rfl rfl (g := (mkF m 19 #[.val (.ref a0x), .val (.ref x), .val (.ref na222), .val (.int (0 : Int32))] [(.int ((0 : Int32) + (1 : Int32))), (.ref a0x)])) rfl rfl (hb hby d11_19)
  have Fw236 := Fq222_size'233.same W236
  have Eq222'237 := Eq222'228.wr W236
  have O0'238 := O0'229.wr W236 g_a
  have E_x'239 := E_x'230.wr W236
  have Gna222'240 := own_A.wr Gna222'231 W236
  have Fq222_modCount'241 := Fq222_modCount'232.other W236 (Or.inr (slot_ne (Or.inl (hw _ (List.mem_of_getElem? (i := 63) rfl))) (Or.inl (hw _ (List.mem_of_getElem? (i := 101) rfl))) (by decide) (t := .int) (t' := .int) (by decide) (by decide)))
  have Fq222_elementData'242 := Fq222_elementData'234.other W236 (Or.inr (slot_ne (Or.inl (hw _ (List.mem_of_getElem? (i := 66) rfl))) (Or.inl (hw _ (List.mem_of_getElem? (i := 101) rfl))) (by decide) (t := (.array (.object "java/lang/Object"))) (t' := .int) (by decide) (by decide)))
  have Z_243 : n0 ≤ h236.size := Nat.le_trans Z_235 (Nat.le_of_eq (Wr.size W236).symm)
  have N236 := Fr.snoc X236 N227 g_a
  have K236 : Keep h0 h236 [a0x] := K227.wr W236 (Or.inl (List.mem_of_getElem? (i := 0) rfl))
  have k244 : ∀ t, Steps p.tables e below (T236.setTop (mkF m 22 #[.val (.ref a0x), .val (.ref x), .val (.ref na222), .val (.int (0 : Int32))] [])) t → Steps p.tables e below (s₁.setTop (entryFrame m #[(.ref a0x), (.ref x), (.ref dfl), (.int (0 : Int32))] 4)) t := fun t kt => pre0 t (by
      let A0 : Array Slot := #[.val (.ref a0x), .val (.ref x), .val (.ref dfl), .val (.int (0 : Int32))]
      show Steps p.tables e below (s₁.setTop (mkF m 0 A0 [])) _
      refine XS.iloadN X0.here hx rfl (hb hby d11_0) rfl ?_
      show Steps p.tables e below (s₁.setTop (mkF m 1 A0 [(.int (0 : Int32))])) _
      refine XS.aloadN X0.here hx rfl (hb hby d11_1) rfl rfl ?_
      show Steps p.tables e below (s₁.setTop (mkF m 2 A0 [(.ref dfl), (.int (0 : Int32))])) _
      refine X0.arraylength hx (by rw [e0]; exact Ad221.1) (State.isArrayOf_alike hZ.alike Ad221.2.1) (g := (mkF m 2 A0 [(.ref dfl), (.int (0 : Int32))])) rfl rfl (hb hby d11_2) _ ?_
      rw [len_of DS (by decide)]
      show Steps p.tables e below (s₁.setTop (mkF m 3 A0 [(.int (0 : Int32)), (.int (0 : Int32))])) _
      refine XS.icmpNo X0.here hx rfl (hb hby d11_3) rfl (teq (by decide : (0 : Int32) = (0 : Int32))).2 ?_
      show Steps p.tables e below (s₁.setTop (mkF m 6 A0 [])) _
      refine XS.aloadN X0.here hx rfl (hb hby d11_6) rfl rfl ?_
      show Steps p.tables e below (s₁.setTop (mkF m 7 A0 [(.ref a0x)])) _
      refine st222.trans ?_
      show Steps p.tables e below (T222.setTop (mkF m 10 A0 [(.ref na222)])) _
      let A1 : Array Slot := #[.val (.ref a0x), .val (.ref x), .val (.ref na222), .val (.int (0 : Int32))]
      refine XS.astoreN X222.here hx rfl (hb hby d11_10) rfl rfl (l' := A1) rfl ?_
      show Steps p.tables e below (T222.setTop (mkF m 11 A1 [])) _
      refine XS.aloadN X222.here hx rfl (hb hby d11_11) rfl rfl ?_
      show Steps p.tables e below (T222.setTop (mkF m 12 A1 [(.ref na222)])) _
      refine XS.iloadN X222.here hx rfl (hb hby d11_12) rfl ?_
      show Steps p.tables e below (T222.setTop (mkF m 13 A1 [(.int (0 : Int32)), (.ref na222)])) _
      refine XS.aloadN X222.here hx rfl (hb hby d11_13) rfl rfl ?_
      show Steps p.tables e below (T222.setTop (mkF m 14 A1 [(.ref x), (.int (0 : Int32)), (.ref na222)])) _
      refine st227 _ ?_
      show Steps p.tables e below (T227.setTop (mkF m 15 A1 [])) _
      refine XS.aloadN X227.here hx rfl (hb hby d11_15) rfl rfl ?_
      show Steps p.tables e below (T227.setTop (mkF m 16 A1 [(.ref a0x)])) _
      refine XS.iloadN X227.here hx rfl (hb hby d11_16) rfl ?_
      show Steps p.tables e below (T227.setTop (mkF m 17 A1 [(.int (0 : Int32)), (.ref a0x)])) _
      refine XS.iconst X227.here hx rfl (hb hby d11_17) ?_
      show Steps p.tables e below (T227.setTop (mkF m 18 A1 [(.int (1 : Int32)), (.int (0 : Int32)), (.ref a0x)])) _
      refine XS.iadd X227.here hx rfl (hb hby d11_18) rfl ?_
      show Steps p.tables e below (T227.setTop (mkF m 19 A1 [(.int ((0 : Int32) + (1 : Int32))), (.ref a0x)])) _
      refine st236 _ ?_
      exact kt)
  obtain ⟨fs, hr, hrun, hended, hW, hsame⟩ := X236.leave (v := none) (fun _ => rfl)
  refine ⟨_, _, k244 _ ?_, hrun, hended, _, _, rfl, ?_, ⟨_, rfl⟩, hW, hsame.mono (by decide) (by decide)⟩
  · show Steps p.tables e below (T236.setTop (mkF m 22 #[.val (.ref a0x), .val (.ref x), .val (.ref na222), .val (.int (0 : Int32))] [])) _
    exact X236.returnOut hx Bd.returns (hb hby d11_22) hr
  · show Q_rm11_0 Z a0x mc h0 n0 _ T236.heap _
    rw [e236]
    exact ⟨rfl, N236, K236, Eq222'237, na222, g_na222, Gna222'240, Fq222_modCount'241, Fw236, Fq222_elementData'242⟩
theorem ef_rm11_n (m : MethodId) (x0 : Addr) (x1 : Addr) (x2 : Addr) (x3 : Int32) : entryFrame m #[(.ref x0), (.ref x1), (.ref x2), (.int x3)] 4 = mkF m 0 #[.val (.ref x0), .val (.ref x1), .val (.ref x2), .val (.int x3)] [] := by first | (simp [entryFrame, mkF, argsToLocals, Value.category]; done) | rfl
def Q_rm11_n (Z : State) (a0x ed : Addr) (mc n : Int32) (h0 : Heap) (n0 : Nat) (v : Option Value) (h : Heap) (L : List Loc) : Prop := v = none ∧ Fr n0 L ∧ Keep h0 h [a0x, ed] ∧ Exa Z h a0x "java/util/ArrayList" ∧ own_A Z h ed ∧ Fld Z h a0x "java/util/AbstractList" "modCount" "I" (.int mc) ∧ Fld Z h a0x "java/util/ArrayList" "size" "I" (.int (n + (1 : Int32))) ∧ Fld Z h a0x "java/util/ArrayList" "elementData" "[Ljava/lang/Object;" (.ref ed)
set_option maxRecDepth 65536 in
set_option maxHeartbeats 40000000 in
theorem rm11_n (l : Launch) (Z : State) (a0 : Array Value) (hw : ∀ d ∈ tables_1, d.before a0 Z = true) (ws : List Jvm.Cond) (a0x x dfl ed : Addr) (cd : Cell) (mc n : Int32) (h0 : Heap) (n0 : Nat) (Z0 : n0 ≤ h0.size) (E_a : Exa Z h0 a0x "java/util/ArrayList") (g_a : n0 ≤ a0x) (F_modCount : Fld Z h0 a0x "java/util/AbstractList" "modCount" "I" (.int mc)) (F_size : Fld Z h0 a0x "java/util/ArrayList" "size" "I" (.int n)) (F_elementData : Fld Z h0 a0x "java/util/ArrayList" "elementData" "[Ljava/lang/Object;" (.ref ed)) (O0 : Old Z n0 h0) (SD : Sta Z Z.heap "java/util/ArrayList" "DEFAULTCAPACITY_EMPTY_ELEMENTDATA" "[Ljava/lang/Object;" (.ref dfl)) (DA : Arr Z Z.heap dfl cd (.object "java/lang/Object")) (DS : cd.slots.size = (0 : Int32).toNatClampNeg) (g_ed : n0 ≤ ed) (G_ed : own_A Z h0 ed) (hnin : ¬ n < 0 ∧ n < (10 : Int32)) (E_x : Exa Z h0 x "com/example/arthurs_seat/arthursseat/language/Junction") :
    MetFree l (⟨"java/util/ArrayList", "add", "(Ljava/lang/Object;[Ljava/lang/Object;I)V"⟩ : MethodName) (head1 (Jvm.Cond.code (⟨"java/util/ArrayList", "add", "(Ljava/lang/Object;[Ljava/lang/Object;I)V"⟩ : MethodName) jdk_38_method_24_code 4 none :: ws) ({ frames := 3, cells := 1, slots := 10, locals := 41 } : Room)) (fun a U => a = #[(.ref a0x), (.ref x), (.ref ed), (.int n)] ∧ Z.Warmed39 U.vm ∧ U.heap = h0) (fun _ _ _ _ _ => True) (fun _ U o U' => ∃ v L, o = .returned v ∧ Q_rm11_n Z a0x ed mc n h0 n0 v U'.heap L ∧ FrameEnd U o U' L ({ frames := 3, cells := 1, slots := 10, locals := 41 } : Room).cells ({ frames := 3, cells := 1, slots := 10, locals := 41 } : Room).slots) := by
  refine MetFree.of_bodySF (plainFor_of_name pn_c4) hisR ?_
  intro p e s m args below meth c s₁ Bd hml0 hP hK
  obtain ⟨rfl, hZ, hh⟩ := hP
  have hx := Bd.exec
  have hby := Bd.bytes
  have hml : c.maxLocals = 4 := hml0
  have hown : s.vm.findClass "java/util/ArrayList" = some m.cls := findClass_of_methodNamed Bd.named
  have hnm := (name_of_methodNamed Bd.named Bd.method).1
  have X0 : Stand p l e ({ frames := 3, cells := 1, slots := 10, locals := 41 } : Room) s m #[(.ref a0x), (.ref x), (.ref ed), (.int n)] below meth c s₁ [] 0 0 := Stand.of_body Bd
  have e0 : s₁.heap = h0 := by rw [← hh, Bd.state]; rfl
  have N0 := Fr.nil n0
  have pre0 : ∀ t, Steps p.tables e below (s₁.setTop (mkF m 0 #[.val (.ref a0x), .val (.ref x), .val (.ref ed), .val (.int n)] [])) t → Steps p.tables e below (s₁.setTop (entryFrame m #[(.ref a0x), (.ref x), (.ref ed), (.int n)] 4)) t := fun t k => castTop (ef_rm11_n m a0x x ed n) k
  have ne_a : a0x ≠ x := ne_exa E_a E_x (by decide)
  obtain ⟨ce, Ae, -⟩ := id G_ed
  have ne_ae : a0x ≠ ed := ne_arr E_a (hw _ (List.mem_of_getElem? (i := 44) rfl)) Ae
  have ne_xe : x ≠ ed := ne_arr E_x (hw _ (List.mem_of_getElem? (i := 36) rfl)) Ae
  obtain ⟨cl245, Ar245, S245, Ov245⟩ := id G_ed
  obtain ⟨cl246, Ar246, S246, Ov246⟩ := id G_ed
  have hin246 : ¬ (n < 0 ∨ cl246.slots.size ≤ (n).toNatClampNeg) := inb_of S246 hnin
  obtain ⟨T246, h246, X246, e246, W246, st246⟩ := stR X0 hx hZ e0 Ar246 (j := n) hin246 rfl (Sto.of Ar246 Ov246 (Ins.of_exa E_x (hw _ (List.mem_of_getElem? (i := 123) rfl)))) (g := (mkF m 14 #[.val (.ref a0x), .val (.ref x), .val (.ref ed), .val (.int n)] [(.ref x), (.int n), (.ref ed)])) rfl rfl (hb hby d11_14)
  have E_a'247 := E_a.wr W246
  have F_modCount'248 := F_modCount.other W246 (Or.inl ne_ae)
  have F_size'249 := F_size.other W246 (Or.inl ne_ae)
  have F_elementData'250 := F_elementData.other W246 (Or.inl ne_ae)
  have O0'251 := O0.wr W246 g_ed
  have E_x'252 := E_x.wr W246
  have G_ed'253 := own_A.wr G_ed W246
  have Z_254 : n0 ≤ h246.size := Nat.le_trans Z0 (Nat.le_of_eq (Wr.size W246).symm)
  have N246 := Fr.snoc X246 N0 g_ed
  have K246 : Keep h0 h246 [a0x, ed] := (Keep.refl h0 [a0x, ed]).wr W246 (Or.inl (List.mem_of_getElem? (i := 1) rfl))
  obtain ⟨T255, h255, X255, e255, W255, st255⟩ := putF X246 hx hZ hown (host := "") (Or.inl (hw _ (List.mem_of_getElem? (i := 100) rfl))) Via.refl e246 F_size'249 E_a'247 (Or.inl (hw _ (List.mem_of_getElem? (i := 101) rfl))) (hw _ (List.mem_of_getElem? (i := 44) rfl)) (ty := .int) (by decide) rfl rfl (g := (mkF m 19 #[.val (.ref a0x), .val (.ref x), .val (.ref ed), .val (.int n)] [(.int (n + (1 : Int32))), (.ref a0x)])) rfl rfl (hb hby d11_19)
  have Fw255 := F_size'249.same W255
  have E_a'256 := E_a'247.wr W255
  have F_modCount'257 := F_modCount'248.other W255 (Or.inr (slot_ne (Or.inl (hw _ (List.mem_of_getElem? (i := 63) rfl))) (Or.inl (hw _ (List.mem_of_getElem? (i := 101) rfl))) (by decide) (t := .int) (t' := .int) (by decide) (by decide)))
  have F_elementData'258 := F_elementData'250.other W255 (Or.inr (slot_ne (Or.inl (hw _ (List.mem_of_getElem? (i := 66) rfl))) (Or.inl (hw _ (List.mem_of_getElem? (i := 101) rfl))) (by decide) (t := (.array (.object "java/lang/Object"))) (t' := .int) (by decide) (by decide)))
  have O0'259 := O0'251.wr W255 g_a
  have E_x'260 := E_x'252.wr W255
  have G_ed'261 := own_A.wr G_ed'253 W255
  have Z_262 : n0 ≤ h255.size := Nat.le_trans Z_254 (Nat.le_of_eq (Wr.size W255).symm)
  have N255 := Fr.snoc X255 N246 g_a
  have K255 : Keep h0 h255 [a0x, ed] := K246.wr W255 (Or.inl (List.mem_of_getElem? (i := 0) rfl))
  have k263 : ∀ t, Steps p.tables e below (T255.setTop (mkF m 22 #[.val (.ref a0x), .val (.ref x), .val (.ref ed), .val (.int n)] [])) t → Steps p.tables e below (s₁.setTop (entryFrame m #[(.ref a0x), (.ref x), (.ref ed), (.int n)] 4)) t := fun t kt => pre0 t (by
      let A0 : Array Slot := #[.val (.ref a0x), .val (.ref x), .val (.ref ed), .val (.int n)]
      show Steps p.tables e below (s₁.setTop (mkF m 0 A0 [])) _
      refine XS.iloadN X0.here hx rfl (hb hby d11_0) rfl ?_
      show Steps p.tables e below (s₁.setTop (mkF m 1 A0 [(.int n)])) _
      refine XS.aloadN X0.here hx rfl (hb hby d11_1) rfl rfl ?_
      show Steps p.tables e below (s₁.setTop (mkF m 2 A0 [(.ref ed), (.int n)])) _
      refine X0.arraylength hx (by rw [e0]; exact Ar245.1) (State.isArrayOf_alike hZ.alike Ar245.2.1) (g := (mkF m 2 A0 [(.ref ed), (.int n)])) rfl rfl (hb hby d11_2) _ ?_
      rw [len_of S245 (by decide)]
      show Steps p.tables e below (s₁.setTop (mkF m 3 A0 [(.int (10 : Int32)), (.int n)])) _
      refine XS.icmpYes X0.here hx rfl (pc0 := 3) (pc' := 11) rfl (hb hby d11_3) rfl (feq (fun q => by rw [q] at hnin; exact absurd hnin.2 (by decide))).2 (by decide) (by decide) ?_
      show Steps p.tables e below (s₁.setTop (mkF m 11 A0 [])) _
      refine XS.aloadN X0.here hx rfl (hb hby d11_11) rfl rfl ?_
      show Steps p.tables e below (s₁.setTop (mkF m 12 A0 [(.ref ed)])) _
      refine XS.iloadN X0.here hx rfl (hb hby d11_12) rfl ?_
      show Steps p.tables e below (s₁.setTop (mkF m 13 A0 [(.int n), (.ref ed)])) _
      refine XS.aloadN X0.here hx rfl (hb hby d11_13) rfl rfl ?_
      show Steps p.tables e below (s₁.setTop (mkF m 14 A0 [(.ref x), (.int n), (.ref ed)])) _
      refine st246 _ ?_
      show Steps p.tables e below (T246.setTop (mkF m 15 A0 [])) _
      refine XS.aloadN X246.here hx rfl (hb hby d11_15) rfl rfl ?_
      show Steps p.tables e below (T246.setTop (mkF m 16 A0 [(.ref a0x)])) _
      refine XS.iloadN X246.here hx rfl (hb hby d11_16) rfl ?_
      show Steps p.tables e below (T246.setTop (mkF m 17 A0 [(.int n), (.ref a0x)])) _
      refine XS.iconst X246.here hx rfl (hb hby d11_17) ?_
      show Steps p.tables e below (T246.setTop (mkF m 18 A0 [(.int (1 : Int32)), (.int n), (.ref a0x)])) _
      refine XS.iadd X246.here hx rfl (hb hby d11_18) rfl ?_
      show Steps p.tables e below (T246.setTop (mkF m 19 A0 [(.int (n + (1 : Int32))), (.ref a0x)])) _
      refine st255 _ ?_
      exact kt)
  obtain ⟨fs, hr, hrun, hended, hW, hsame⟩ := X255.leave (v := none) (fun _ => rfl)
  refine ⟨_, _, k263 _ ?_, hrun, hended, _, _, rfl, ?_, ⟨_, rfl⟩, hW, hsame.mono (by decide) (by decide)⟩
  · show Steps p.tables e below (T255.setTop (mkF m 22 #[.val (.ref a0x), .val (.ref x), .val (.ref ed), .val (.int n)] [])) _
    exact X255.returnOut hx Bd.returns (hb hby d11_22) hr
  · show Q_rm11_n Z a0x ed mc n h0 n0 _ T255.heap _
    rw [e255]
    exact ⟨rfl, N255, K255, E_a'256, G_ed'261, F_modCount'257, Fw255, F_elementData'258⟩
theorem own_k2 {h0 h h' : Heap} {a d : Addr} (K : Keep h0 h [a]) (K' : Keep h h' [a]) : Keep h0 h' [a, d] := by
  have K1 : Keep h0 h [a, d] := ⟨K.1, fun x c q r => K.2.1 x c q (fun z => r (List.mem_cons.mpr (Or.inl (List.mem_singleton.mp z)))), K.2.2⟩
  exact K1.trans K' (allS (Or.inl (List.mem_cons_self ..)) all0)
theorem own_k3 {h0 h h' : Heap} {a d : Addr} (K : Keep h0 h [a]) (K' : Keep h h' [a, d]) : Keep h0 h' [a, d] := by
  have K1 : Keep h0 h [a, d] := ⟨K.1, fun x c q r => K.2.1 x c q (fun z => r (List.mem_cons.mpr (Or.inl (List.mem_singleton.mp z)))), K.2.2⟩
  exact K1.trans K' (fun x hx => Or.inl hx)
theorem own_inc {n : Int32} {B : Int} (h0 : 0 ≤ n.toInt) (h1 : n.toInt ≤ B) (h2 : B ≤ 8) : 0 ≤ (n + (1 : Int32)).toInt ∧ (n + (1 : Int32)).toInt ≤ B + 1 := by
  have e := c_iadd n (1 : Int32)
  have r := rng32 (n + (1 : Int32))
  rw [show (1 : Int32).toInt = 1 from rfl] at e
  omega
theorem own_in10 {n : Int32} {B : Int} (h0 : 0 ≤ n.toInt) (h1 : n.toInt ≤ B) (h2 : B ≤ 8) : ¬ n < 0 ∧ n < (10 : Int32) := by
  simp only [Int32.lt_iff_toInt_lt, show (0 : Int32).toInt = 0 from rfl, show (10 : Int32).toInt = 10 from rfl]
  omega
theorem d10_0 : decode jdk_38_method_25_code 0 = .ok (.aload_n 0, 1) := by decide +kernel
theorem d10_1 : decode jdk_38_method_25_code 1 = .ok (.dup, 1) := by decide +kernel
theorem d10_2 : decode jdk_38_method_25_code 2 = .ok (.getfield 63, 3) := by decide +kernel
theorem d10_5 : decode jdk_38_method_25_code 5 = .ok (.iconst 1, 1) := by decide +kernel
theorem d10_6 : decode jdk_38_method_25_code 6 = .ok (.iadd, 1) := by decide +kernel
theorem d10_7 : decode jdk_38_method_25_code 7 = .ok (.putfield 63, 3) := by decide +kernel
theorem d10_10 : decode jdk_38_method_25_code 10 = .ok (.aload_n 0, 1) := by decide +kernel
theorem d10_11 : decode jdk_38_method_25_code 11 = .ok (.aload_n 1, 1) := by decide +kernel
theorem d10_12 : decode jdk_38_method_25_code 12 = .ok (.aload_n 0, 1) := by decide +kernel
theorem d10_13 : decode jdk_38_method_25_code 13 = .ok (.getfield 9, 3) := by decide +kernel
theorem d10_16 : decode jdk_38_method_25_code 16 = .ok (.aload_n 0, 1) := by decide +kernel
theorem d10_17 : decode jdk_38_method_25_code 17 = .ok (.getfield 48, 3) := by decide +kernel
theorem pd_6 : parseMethodDescriptor "(Ljava/lang/Object;[Ljava/lang/Object;I)V" = some ⟨[(.object "java/lang/Object"), (.array (.object "java/lang/Object")), .int], none⟩ := by decide +kernel
theorem d10_20 : decode jdk_38_method_25_code 20 = .ok (.invokevirtual 131, 3) := by decide +kernel
theorem d10_23 : decode jdk_38_method_25_code 23 = .ok (.iconst 1, 1) := by decide +kernel
theorem d10_24 : decode jdk_38_method_25_code 24 = .ok (.ireturn, 1) := by decide +kernel
theorem ef_rm10_0 (m : MethodId) (x0 : Addr) (x1 : Addr) : entryFrame m #[(.ref x0), (.ref x1)] 2 = mkF m 0 #[.val (.ref x0), .val (.ref x1)] [] := by first | (simp [entryFrame, mkF, argsToLocals, Value.category]; done) | rfl
def Q_rm10_0 (Z : State) (a0x dfl : Addr) (B : Int) (h0 : Heap) (n0 : Nat) (v : Option Value) (h : Heap) (L : List Loc) : Prop := v = some (.int 1) ∧ Fr n0 L ∧ (∃ ed : Addr, own_O Z h ed ∧ Keep h0 h [a0x, ed]) ∧ own_L Z h n0 dfl a0x (B + 1) ∧ Old Z n0 h
set_option maxRecDepth 65536 in
set_option maxHeartbeats 40000000 in
theorem rm10_0 (l : Launch) (Z : State) (a0 : Array Value) (hw : ∀ d ∈ tables_1, d.before a0 Z = true) (ws : List Jvm.Cond) (a0x x dfl : Addr) (cd : Cell) (mc : Int32) (B : Int) (h0 : Heap) (n0 : Nat) (Z0 : n0 ≤ h0.size) (E_a : Exa Z h0 a0x "java/util/ArrayList") (g_a : n0 ≤ a0x) (F_modCount : Fld Z h0 a0x "java/util/AbstractList" "modCount" "I" (.int mc)) (F_size : Fld Z h0 a0x "java/util/ArrayList" "size" "I" (.int (0 : Int32))) (F_elementData : Fld Z h0 a0x "java/util/ArrayList" "elementData" "[Ljava/lang/Object;" (.ref dfl)) (O0 : Old Z n0 h0) (SD : Sta Z Z.heap "java/util/ArrayList" "DEFAULTCAPACITY_EMPTY_ELEMENTDATA" "[Ljava/lang/Object;" (.ref dfl)) (DA : Arr Z Z.heap dfl cd (.object "java/lang/Object")) (DS : cd.slots.size = (0 : Int32).toNatClampNeg) (E_x : Exa Z h0 x "com/example/arthurs_seat/arthursseat/language/Junction") (hB : 0 ≤ B) :
    MetFree l (⟨"java/util/ArrayList", "add", "(Ljava/lang/Object;)Z"⟩ : MethodName) (head1 (Jvm.Cond.code (⟨"java/util/ArrayList", "add", "(Ljava/lang/Object;)Z"⟩ : MethodName) jdk_38_method_25_code 2 (some .boolean) :: ws) ({ frames := 4, cells := 1, slots := 10, locals := 56 } : Room)) (fun a U => a = #[(.ref a0x), (.ref x)] ∧ Z.Warmed39 U.vm ∧ U.heap = h0) (fun _ _ _ _ _ => True) (fun _ U o U' => ∃ v L, o = .returned v ∧ Q_rm10_0 Z a0x dfl B h0 n0 v U'.heap L ∧ FrameEnd U o U' L ({ frames := 4, cells := 1, slots := 10, locals := 56 } : Room).cells ({ frames := 4, cells := 1, slots := 10, locals := 56 } : Room).slots) := by
  refine MetFree.of_bodySF (plainFor_of_name pn_c4) hisR ?_
  intro p e s m args below meth c s₁ Bd hml0 hP hK
  obtain ⟨rfl, hZ, hh⟩ := hP
  have hx := Bd.exec
  have hby := Bd.bytes
  have hml : c.maxLocals = 2 := hml0
  have hown : s.vm.findClass "java/util/ArrayList" = some m.cls := findClass_of_methodNamed Bd.named
  have hnm := (name_of_methodNamed Bd.named Bd.method).1
  have X0 : Stand p l e ({ frames := 4, cells := 1, slots := 10, locals := 56 } : Room) s m #[(.ref a0x), (.ref x)] below meth c s₁ [] 0 0 := Stand.of_body Bd
  have e0 : s₁.heap = h0 := by rw [← hh, Bd.state]; rfl
  have N0 := Fr.nil n0
  have pre0 : ∀ t, Steps p.tables e below (s₁.setTop (mkF m 0 #[.val (.ref a0x), .val (.ref x)] [])) t → Steps p.tables e below (s₁.setTop (entryFrame m #[(.ref a0x), (.ref x)] 2)) t := fun t k => castTop (ef_rm10_0 m a0x x) k
  have ne_a : a0x ≠ x := ne_exa E_a E_x (by decide)
  obtain ⟨T264, X264, e264, st264⟩ := getF X0 hx hZ hown (host := "") (Or.inl (hw _ (List.mem_of_getElem? (i := 98) rfl))) (Via.of (hw _ (List.mem_of_getElem? (i := 99) rfl))) e0 F_modCount (g := (mkF m 2 #[.val (.ref a0x), .val (.ref x)] [(.ref a0x), (.ref a0x)])) rfl rfl (hb hby d10_2)
  obtain ⟨T265, h265, X265, e265, W265, st265⟩ := putF X264 hx hZ hown (host := "") (Or.inl (hw _ (List.mem_of_getElem? (i := 98) rfl))) (Via.of (hw _ (List.mem_of_getElem? (i := 99) rfl))) e264 F_modCount E_a (Or.inl (hw _ (List.mem_of_getElem? (i := 63) rfl))) (hw _ (List.mem_of_getElem? (i := 44) rfl)) (ty := .int) (by decide) rfl rfl (g := (mkF m 7 #[.val (.ref a0x), .val (.ref x)] [(.int (mc + (1 : Int32))), (.ref a0x)])) rfl rfl (hb hby d10_7)
  have Fw265 := F_modCount.same W265
  have E_a'266 := E_a.wr W265
  have F_size'267 := F_size.other W265 (Or.inr (slot_ne (Or.inl (hw _ (List.mem_of_getElem? (i := 101) rfl))) (Or.inl (hw _ (List.mem_of_getElem? (i := 63) rfl))) (by decide) (t := .int) (t' := .int) (by decide) (by decide)))
  have F_elementData'268 := F_elementData.other W265 (Or.inr (slot_ne (Or.inl (hw _ (List.mem_of_getElem? (i := 66) rfl))) (Or.inl (hw _ (List.mem_of_getElem? (i := 63) rfl))) (by decide) (t := (.array (.object "java/lang/Object"))) (t' := .int) (by decide) (by decide)))
  have O0'269 := O0.wr W265 g_a
  have E_x'270 := E_x.wr W265
  have Z_271 : n0 ≤ h265.size := Nat.le_trans Z0 (Nat.le_of_eq (Wr.size W265).symm)
  have N265 := Fr.snoc X265 N0 g_a
  have K265 : Keep h0 h265 [a0x] := (Keep.refl h0 [a0x]).wr W265 (Or.inl (List.mem_of_getElem? (i := 0) rfl))
  obtain ⟨T272, X272, e272, st272⟩ := getF X265 hx hZ hown (host := "") (Or.inl (hw _ (List.mem_of_getElem? (i := 65) rfl))) Via.refl e265 F_elementData'268 (g := (mkF m 13 #[.val (.ref a0x), .val (.ref x)] [(.ref a0x), (.ref x), (.ref a0x)])) rfl rfl (hb hby d10_13)
  obtain ⟨T273, X273, e273, st273⟩ := getF X272 hx hZ hown (host := "") (Or.inl (hw _ (List.mem_of_getElem? (i := 100) rfl))) Via.refl e272 F_size'267 (g := (mkF m 17 #[.val (.ref a0x), .val (.ref x)] [(.ref a0x), (.ref dfl), (.ref x), (.ref a0x)])) rfl rfl (hb hby d10_17)
  obtain ⟨cq274, q274, q274'⟩ := E_a'266.cell
  obtain ⟨_, _, ⟨T274, L274, k274, n274⟩, -, X274, ⟨Lc274, hQ274, l274, y274, z274⟩, st274⟩ := X273.privateBack hx (y := (⟨"java/util/ArrayList", "add", "(Ljava/lang/Object;[Ljava/lang/Object;I)V"⟩ : MethodName)) hown (mvT hZ (hw _ (List.mem_of_getElem? (i := 102) rfl))) (mvT hZ (hw _ (List.mem_of_getElem? (i := 103) rfl))) (mvT hZ (hw _ (List.mem_of_getElem? (i := 105) rfl))) (Cond.privateMethod_at (mvP hZ (hw _ (List.mem_of_getElem? (i := 104) rfl)) (args := #[]))) (mvT hZ (hw _ (List.mem_of_getElem? (i := 106) rfl))) (by decide) (backOf (W := 0) (rm11_0 l Z a0 hw [] a0x x dfl cd (mc + (1 : Int32)) h265 n0 Z_271 E_a'266 g_a Fw265 F_size'267 F_elementData'268 O0'269 SD DA DS E_x'270) hZ (hw _ (List.mem_of_getElem? (i := 106) rfl)) (hw _ (List.mem_of_getElem? (i := 45) rfl)) (by decide) (by decide)) (g := (mkF m 20 #[.val (.ref a0x), .val (.ref x)] [(.int (0 : Int32)), (.ref dfl), (.ref x), (.ref a0x)])) rfl (by rw [hml]; rfl) (Steps.refl _) (a := a0x) (by rw [e273]; exact q274) q274' (argsL := [(.ref x), (.ref dfl), (.int (0 : Int32))]) (rest := []) (lenOf pd_6 rfl) rfl (by show 2 * 0 + _ ≤ _; exact Nat.le_of_eq rfl) (hb hby d10_20) (fun _ _ => ⟨rfl, e273, (by decide : 0 + 1 ≤ _), (by decide : 0 + 10 ≤ _)⟩)
  dsimp only [Pt.U, Pt.locs, Pt.cells, Pt.slots] at X274 l274 y274 z274 st274 hQ274
  subst l274 y274 z274
  obtain ⟨rfl, N274q, Kq274, Eq274, na274, gq274, Gq274, Fq274_modCount, Fq274_size, Fq274_elementData⟩ := hQ274
  have N274 := Fr.app N265 N274q
  have Oe := O0'269.keep Kq274 (allS g_a all0)
  have k275 : ∀ t, Steps p.tables e below (T274.setTop (mkF m 24 #[.val (.ref a0x), .val (.ref x)] [(.int (1 : Int32))])) t → Steps p.tables e below (s₁.setTop (entryFrame m #[(.ref a0x), (.ref x)] 2)) t := fun t kt => pre0 t (by
      show Steps p.tables e below (s₁.setTop (mkF m 0 #[.val (.ref a0x), .val (.ref x)] [])) _
      refine XS.aloadN X0.here hx rfl (hb hby d10_0) rfl rfl ?_
      show Steps p.tables e below (s₁.setTop (mkF m 1 #[.val (.ref a0x), .val (.ref x)] [(.ref a0x)])) _
      refine XS.dup X0.here hx rfl (hb hby d10_1) rfl rfl ?_
      show Steps p.tables e below (s₁.setTop (mkF m 2 #[.val (.ref a0x), .val (.ref x)] [(.ref a0x), (.ref a0x)])) _
      refine st264 _ ?_
      show Steps p.tables e below (T264.setTop (mkF m 5 #[.val (.ref a0x), .val (.ref x)] [(.int mc), (.ref a0x)])) _
      refine XS.iconst X264.here hx rfl (hb hby d10_5) ?_
      show Steps p.tables e below (T264.setTop (mkF m 6 #[.val (.ref a0x), .val (.ref x)] [(.int (1 : Int32)), (.int mc), (.ref a0x)])) _
      refine XS.iadd X264.here hx rfl (hb hby d10_6) rfl ?_
      show Steps p.tables e below (T264.setTop (mkF m 7 #[.val (.ref a0x), .val (.ref x)] [(.int (mc + (1 : Int32))), (.ref a0x)])) _
      refine st265 _ ?_
      show Steps p.tables e below (T265.setTop (mkF m 10 #[.val (.ref a0x), .val (.ref x)] [])) _
      refine XS.aloadN X265.here hx rfl (hb hby d10_10) rfl rfl ?_
      show Steps p.tables e below (T265.setTop (mkF m 11 #[.val (.ref a0x), .val (.ref x)] [(.ref a0x)])) _
      refine XS.aloadN X265.here hx rfl (hb hby d10_11) rfl rfl ?_
      show Steps p.tables e below (T265.setTop (mkF m 12 #[.val (.ref a0x), .val (.ref x)] [(.ref x), (.ref a0x)])) _
      refine XS.aloadN X265.here hx rfl (hb hby d10_12) rfl rfl ?_
      show Steps p.tables e below (T265.setTop (mkF m 13 #[.val (.ref a0x), .val (.ref x)] [(.ref a0x), (.ref x), (.ref a0x)])) _
      refine st272 _ ?_
      show Steps p.tables e below (T272.setTop (mkF m 16 #[.val (.ref a0x), .val (.ref x)] [(.ref dfl), (.ref x), (.ref a0x)])) _
      refine XS.aloadN X272.here hx rfl (hb hby d10_16) rfl rfl ?_
      show Steps p.tables e below (T272.setTop (mkF m 17 #[.val (.ref a0x), .val (.ref x)] [(.ref a0x), (.ref dfl), (.ref x), (.ref a0x)])) _
      refine st273 _ ?_
      show Steps p.tables e below (T273.setTop (mkF m 20 #[.val (.ref a0x), .val (.ref x)] [(.int (0 : Int32)), (.ref dfl), (.ref x), (.ref a0x)])) _
      refine st274.trans ?_
      show Steps p.tables e below (T274.setTop (mkF m 23 #[.val (.ref a0x), .val (.ref x)] [])) _
      refine XS.iconst X274.here hx rfl (hb hby d10_23) ?_
      exact kt)
  obtain ⟨fs, hr, hrun, hended, hW, hsame⟩ := X274.leave (v := some (.int (1 : Int32))) (fun h => by rw [Bd.returns] at h; cases h)
  refine ⟨_, _, k275 _ ?_, hrun, hended, _, _, rfl, ?_, ⟨_, rfl⟩, hW, hsame.mono (by decide) (by decide)⟩
  · show Steps p.tables e below (T274.setTop (mkF m 24 #[.val (.ref a0x), .val (.ref x)] [(.int (1 : Int32))])) _
    exact retN X274 hx (t := .boolean) Bd.returns (by simp) (hb hby d10_24) hr
  · show Q_rm10_0 Z a0x dfl B h0 n0 _ T274.heap _
    exact ⟨rfl, N274, ⟨dfl, ⟨cd, DA.ext Oe.2⟩, own_k2 K265 Kq274⟩, ⟨Eq274, _, _, _, Fq274_modCount, Fq274_size, Fq274_elementData, Or.inr ⟨by decide, by rw [show ((0 : Int32) + (1 : Int32)).toInt = 1 from rfl]; omega, gq274, Gq274⟩⟩, Oe⟩
theorem ef_rm10_n (m : MethodId) (x0 : Addr) (x1 : Addr) : entryFrame m #[(.ref x0), (.ref x1)] 2 = mkF m 0 #[.val (.ref x0), .val (.ref x1)] [] := by first | (simp [entryFrame, mkF, argsToLocals, Value.category]; done) | rfl
def Q_rm10_n (Z : State) (a0x dfl : Addr) (B : Int) (h0 : Heap) (n0 : Nat) (v : Option Value) (h : Heap) (L : List Loc) : Prop := v = some (.int 1) ∧ Fr n0 L ∧ (∃ ed : Addr, own_O Z h ed ∧ Keep h0 h [a0x, ed]) ∧ own_L Z h n0 dfl a0x (B + 1) ∧ Old Z n0 h
set_option maxRecDepth 65536 in
set_option maxHeartbeats 40000000 in
theorem rm10_n (l : Launch) (Z : State) (a0 : Array Value) (hw : ∀ d ∈ tables_1, d.before a0 Z = true) (ws : List Jvm.Cond) (a0x x dfl ed : Addr) (cd : Cell) (mc n : Int32) (B : Int) (h0 : Heap) (n0 : Nat) (Z0 : n0 ≤ h0.size) (E_a : Exa Z h0 a0x "java/util/ArrayList") (g_a : n0 ≤ a0x) (F_modCount : Fld Z h0 a0x "java/util/AbstractList" "modCount" "I" (.int mc)) (F_size : Fld Z h0 a0x "java/util/ArrayList" "size" "I" (.int n)) (F_elementData : Fld Z h0 a0x "java/util/ArrayList" "elementData" "[Ljava/lang/Object;" (.ref ed)) (O0 : Old Z n0 h0) (SD : Sta Z Z.heap "java/util/ArrayList" "DEFAULTCAPACITY_EMPTY_ELEMENTDATA" "[Ljava/lang/Object;" (.ref dfl)) (DA : Arr Z Z.heap dfl cd (.object "java/lang/Object")) (DS : cd.slots.size = (0 : Int32).toNatClampNeg) (g_ed : n0 ≤ ed) (G_ed : own_A Z h0 ed) (hnin : ¬ n < 0 ∧ n < (10 : Int32)) (E_x : Exa Z h0 x "com/example/arthurs_seat/arthursseat/language/Junction") (hn0 : 0 ≤ n.toInt) (hB : n.toInt ≤ B) (hB9 : B ≤ 8) :
    MetFree l (⟨"java/util/ArrayList", "add", "(Ljava/lang/Object;)Z"⟩ : MethodName) (head1 (Jvm.Cond.code (⟨"java/util/ArrayList", "add", "(Ljava/lang/Object;)Z"⟩ : MethodName) jdk_38_method_25_code 2 (some .boolean) :: ws) ({ frames := 4, cells := 1, slots := 10, locals := 56 } : Room)) (fun a U => a = #[(.ref a0x), (.ref x)] ∧ Z.Warmed39 U.vm ∧ U.heap = h0) (fun _ _ _ _ _ => True) (fun _ U o U' => ∃ v L, o = .returned v ∧ Q_rm10_n Z a0x dfl B h0 n0 v U'.heap L ∧ FrameEnd U o U' L ({ frames := 4, cells := 1, slots := 10, locals := 56 } : Room).cells ({ frames := 4, cells := 1, slots := 10, locals := 56 } : Room).slots) := by
  refine MetFree.of_bodySF (plainFor_of_name pn_c4) hisR ?_
  intro p e s m args below meth c s₁ Bd hml0 hP hK
  obtain ⟨rfl, hZ, hh⟩ := hP
  have hx := Bd.exec
  have hby := Bd.bytes
  have hml : c.maxLocals = 2 := hml0
  have hown : s.vm.findClass "java/util/ArrayList" = some m.cls := findClass_of_methodNamed Bd.named
  have hnm := (name_of_methodNamed Bd.named Bd.method).1
  have X0 : Stand p l e ({ frames := 4, cells := 1, slots := 10, locals := 56 } : Room) s m #[(.ref a0x), (.ref x)] below meth c s₁ [] 0 0 := Stand.of_body Bd
  have e0 : s₁.heap = h0 := by rw [← hh, Bd.state]; rfl
  have N0 := Fr.nil n0
  have pre0 : ∀ t, Steps p.tables e below (s₁.setTop (mkF m 0 #[.val (.ref a0x), .val (.ref x)] [])) t → Steps p.tables e below (s₁.setTop (entryFrame m #[(.ref a0x), (.ref x)] 2)) t := fun t k => castTop (ef_rm10_n m a0x x) k
  have ne_a : a0x ≠ x := ne_exa E_a E_x (by decide)
  obtain ⟨T276, X276, e276, st276⟩ := getF X0 hx hZ hown (host := "") (Or.inl (hw _ (List.mem_of_getElem? (i := 98) rfl))) (Via.of (hw _ (List.mem_of_getElem? (i := 99) rfl))) e0 F_modCount (g := (mkF m 2 #[.val (.ref a0x), .val (.ref x)] [(.ref a0x), (.ref a0x)])) rfl rfl (hb hby d10_2)
  obtain ⟨T277, h277, X277, e277, W277, st277⟩ := putF X276 hx hZ hown (host := "") (Or.inl (hw _ (List.mem_of_getElem? (i := 98) rfl))) (Via.of (hw _ (List.mem_of_getElem? (i := 99) rfl))) e276 F_modCount E_a (Or.inl (hw _ (List.mem_of_getElem? (i := 63) rfl))) (hw _ (List.mem_of_getElem? (i := 44) rfl)) (ty := .int) (by decide) rfl rfl (g := (mkF m 7 #[.val (.ref a0x), .val (.ref x)] [(.int (mc + (1 : Int32))), (.ref a0x)])) rfl rfl (hb hby d10_7)
  have Fw277 := F_modCount.same W277
  have E_a'278 := E_a.wr W277
  have F_size'279 := F_size.other W277 (Or.inr (slot_ne (Or.inl (hw _ (List.mem_of_getElem? (i := 101) rfl))) (Or.inl (hw _ (List.mem_of_getElem? (i := 63) rfl))) (by decide) (t := .int) (t' := .int) (by decide) (by decide)))
  have F_elementData'280 := F_elementData.other W277 (Or.inr (slot_ne (Or.inl (hw _ (List.mem_of_getElem? (i := 66) rfl))) (Or.inl (hw _ (List.mem_of_getElem? (i := 63) rfl))) (by decide) (t := (.array (.object "java/lang/Object"))) (t' := .int) (by decide) (by decide)))
  have O0'281 := O0.wr W277 g_a
  have G_ed'282 := own_A.wr G_ed W277
  have E_x'283 := E_x.wr W277
  have Z_284 : n0 ≤ h277.size := Nat.le_trans Z0 (Nat.le_of_eq (Wr.size W277).symm)
  have N277 := Fr.snoc X277 N0 g_a
  have K277 : Keep h0 h277 [a0x] := (Keep.refl h0 [a0x]).wr W277 (Or.inl (List.mem_of_getElem? (i := 0) rfl))
  obtain ⟨T285, X285, e285, st285⟩ := getF X277 hx hZ hown (host := "") (Or.inl (hw _ (List.mem_of_getElem? (i := 65) rfl))) Via.refl e277 F_elementData'280 (g := (mkF m 13 #[.val (.ref a0x), .val (.ref x)] [(.ref a0x), (.ref x), (.ref a0x)])) rfl rfl (hb hby d10_13)
  obtain ⟨T286, X286, e286, st286⟩ := getF X285 hx hZ hown (host := "") (Or.inl (hw _ (List.mem_of_getElem? (i := 100) rfl))) Via.refl e285 F_size'279 (g := (mkF m 17 #[.val (.ref a0x), .val (.ref x)] [(.ref a0x), (.ref ed), (.ref x), (.ref a0x)])) rfl rfl (hb hby d10_17)
  obtain ⟨cq287, q287, q287'⟩ := E_a'278.cell
  obtain ⟨_, _, ⟨T287, L287, k287, n287⟩, -, X287, ⟨Lc287, hQ287, l287, y287, z287⟩, st287⟩ := X286.privateBack hx (y := (⟨"java/util/ArrayList", "add", "(Ljava/lang/Object;[Ljava/lang/Object;I)V"⟩ : MethodName)) hown (mvT hZ (hw _ (List.mem_of_getElem? (i := 102) rfl))) (mvT hZ (hw _ (List.mem_of_getElem? (i := 103) rfl))) (mvT hZ (hw _ (List.mem_of_getElem? (i := 105) rfl))) (Cond.privateMethod_at (mvP hZ (hw _ (List.mem_of_getElem? (i := 104) rfl)) (args := #[]))) (mvT hZ (hw _ (List.mem_of_getElem? (i := 106) rfl))) (by decide) (backOf (W := 0) (rm11_n l Z a0 hw [] a0x x dfl ed cd (mc + (1 : Int32)) n h277 n0 Z_284 E_a'278 g_a Fw277 F_size'279 F_elementData'280 O0'281 SD DA DS g_ed G_ed'282 hnin E_x'283) hZ (hw _ (List.mem_of_getElem? (i := 106) rfl)) (hw _ (List.mem_of_getElem? (i := 45) rfl)) (by decide) (by decide)) (g := (mkF m 20 #[.val (.ref a0x), .val (.ref x)] [(.int n), (.ref ed), (.ref x), (.ref a0x)])) rfl (by rw [hml]; rfl) (Steps.refl _) (a := a0x) (by rw [e286]; exact q287) q287' (argsL := [(.ref x), (.ref ed), (.int n)]) (rest := []) (lenOf pd_6 rfl) rfl (by show 2 * 0 + _ ≤ _; exact Nat.le_of_eq rfl) (hb hby d10_20) (fun _ _ => ⟨rfl, e286, (by decide : 0 + 1 ≤ _), (by decide : 0 + 10 ≤ _)⟩)
  dsimp only [Pt.U, Pt.locs, Pt.cells, Pt.slots] at X287 l287 y287 z287 st287 hQ287
  subst l287 y287 z287
  obtain ⟨rfl, N287q, Kq287, Eq287, Gq287, Fq287_modCount, Fq287_size, Fq287_elementData⟩ := hQ287
  have N287 := Fr.app N277 N287q
  have hn1 := own_inc hn0 hB hB9
  have Oe := O0'281.keep Kq287 (allS g_a (allS g_ed all0))
  have k288 : ∀ t, Steps p.tables e below (T287.setTop (mkF m 24 #[.val (.ref a0x), .val (.ref x)] [(.int (1 : Int32))])) t → Steps p.tables e below (s₁.setTop (entryFrame m #[(.ref a0x), (.ref x)] 2)) t := fun t kt => pre0 t (by
      show Steps p.tables e below (s₁.setTop (mkF m 0 #[.val (.ref a0x), .val (.ref x)] [])) _
      refine XS.aloadN X0.here hx rfl (hb hby d10_0) rfl rfl ?_
      show Steps p.tables e below (s₁.setTop (mkF m 1 #[.val (.ref a0x), .val (.ref x)] [(.ref a0x)])) _
      refine XS.dup X0.here hx rfl (hb hby d10_1) rfl rfl ?_
      show Steps p.tables e below (s₁.setTop (mkF m 2 #[.val (.ref a0x), .val (.ref x)] [(.ref a0x), (.ref a0x)])) _
      refine st276 _ ?_
      show Steps p.tables e below (T276.setTop (mkF m 5 #[.val (.ref a0x), .val (.ref x)] [(.int mc), (.ref a0x)])) _
      refine XS.iconst X276.here hx rfl (hb hby d10_5) ?_
      show Steps p.tables e below (T276.setTop (mkF m 6 #[.val (.ref a0x), .val (.ref x)] [(.int (1 : Int32)), (.int mc), (.ref a0x)])) _
      refine XS.iadd X276.here hx rfl (hb hby d10_6) rfl ?_
      show Steps p.tables e below (T276.setTop (mkF m 7 #[.val (.ref a0x), .val (.ref x)] [(.int (mc + (1 : Int32))), (.ref a0x)])) _
      refine st277 _ ?_
      show Steps p.tables e below (T277.setTop (mkF m 10 #[.val (.ref a0x), .val (.ref x)] [])) _
      refine XS.aloadN X277.here hx rfl (hb hby d10_10) rfl rfl ?_
      show Steps p.tables e below (T277.setTop (mkF m 11 #[.val (.ref a0x), .val (.ref x)] [(.ref a0x)])) _
      refine XS.aloadN X277.here hx rfl (hb hby d10_11) rfl rfl ?_
      show Steps p.tables e below (T277.setTop (mkF m 12 #[.val (.ref a0x), .val (.ref x)] [(.ref x), (.ref a0x)])) _
      refine XS.aloadN X277.here hx rfl (hb hby d10_12) rfl rfl ?_
      show Steps p.tables e below (T277.setTop (mkF m 13 #[.val (.ref a0x), .val (.ref x)] [(.ref a0x), (.ref x), (.ref a0x)])) _
      refine st285 _ ?_
      show Steps p.tables e below (T285.setTop (mkF m 16 #[.val (.ref a0x), .val (.ref x)] [(.ref ed), (.ref x), (.ref a0x)])) _
      refine XS.aloadN X285.here hx rfl (hb hby d10_16) rfl rfl ?_
      show Steps p.tables e below (T285.setTop (mkF m 17 #[.val (.ref a0x), .val (.ref x)] [(.ref a0x), (.ref ed), (.ref x), (.ref a0x)])) _
      refine st286 _ ?_
      show Steps p.tables e below (T286.setTop (mkF m 20 #[.val (.ref a0x), .val (.ref x)] [(.int n), (.ref ed), (.ref x), (.ref a0x)])) _
      refine st287.trans ?_
      show Steps p.tables e below (T287.setTop (mkF m 23 #[.val (.ref a0x), .val (.ref x)] [])) _
      refine XS.iconst X287.here hx rfl (hb hby d10_23) ?_
      exact kt)
  obtain ⟨fs, hr, hrun, hended, hW, hsame⟩ := X287.leave (v := some (.int (1 : Int32))) (fun h => by rw [Bd.returns] at h; cases h)
  refine ⟨_, _, k288 _ ?_, hrun, hended, _, _, rfl, ?_, ⟨_, rfl⟩, hW, hsame.mono (by decide) (by decide)⟩
  · show Steps p.tables e below (T287.setTop (mkF m 24 #[.val (.ref a0x), .val (.ref x)] [(.int (1 : Int32))])) _
    exact retN X287 hx (t := .boolean) Bd.returns (by simp) (hb hby d10_24) hr
  · show Q_rm10_n Z a0x dfl B h0 n0 _ T287.heap _
    exact ⟨rfl, N287, ⟨ed, Gq287.o, own_k3 K277 Kq287⟩, ⟨Eq287, _, _, _, Fq287_modCount, Fq287_size, Fq287_elementData, Or.inr ⟨hn1.1, hn1.2, g_ed, Gq287⟩⟩, Oe⟩
theorem rm10 (l : Launch) (Z : State) (a0 : Array Value) (hw : ∀ d ∈ tables_1, d.before a0 Z = true) (ws : List Jvm.Cond) (a0x x dfl : Addr) (cd : Cell) (B : Int) (h0 : Heap) (n0 : Nat) (Z0 : n0 ≤ h0.size) (LL : own_L Z h0 n0 dfl a0x B) (g_a : n0 ≤ a0x) (O0 : Old Z n0 h0) (SD : Sta Z Z.heap "java/util/ArrayList" "DEFAULTCAPACITY_EMPTY_ELEMENTDATA" "[Ljava/lang/Object;" (.ref dfl)) (DA : Arr Z Z.heap dfl cd (.object "java/lang/Object")) (DS : cd.slots.size = (0 : Int32).toNatClampNeg) (E_x : Exa Z h0 x "com/example/arthurs_seat/arthursseat/language/Junction") (hB0 : 0 ≤ B) (hB9 : B ≤ 8) :
    MetFree l (⟨"java/util/ArrayList", "add", "(Ljava/lang/Object;)Z"⟩ : MethodName) (head1 (Jvm.Cond.code (⟨"java/util/ArrayList", "add", "(Ljava/lang/Object;)Z"⟩ : MethodName) jdk_38_method_25_code 2 (some .boolean) :: ws) ({ frames := 4, cells := 1, slots := 10, locals := 56 } : Room)) (fun a U => a = #[(.ref a0x), (.ref x)] ∧ Z.Warmed39 U.vm ∧ U.heap = h0) (fun _ _ _ _ _ => True) (fun _ U o U' => ∃ v L, o = .returned v ∧ Q_rm10_0 Z a0x dfl B h0 n0 v U'.heap L ∧ FrameEnd U o U' L ({ frames := 4, cells := 1, slots := 10, locals := 56 } : Room).cells ({ frames := 4, cells := 1, slots := 10, locals := 56 } : Room).slots) := by
  obtain ⟨E, mc, n, ed, f1, f2, f3, f4⟩ := LL
  rcases f4 with ⟨rfl, rfl⟩ | ⟨q1, q2, q3, q4⟩
  · exact rm10_0 l Z a0 hw ws a0x x _ cd mc B h0 n0 Z0 E g_a f1 f2 f3 O0 SD DA DS E_x hB0
  · exact rm10_n l Z a0 hw ws a0x x dfl ed cd mc n B h0 n0 Z0 E g_a f1 f2 f3 O0 SD DA DS q3 q4 (own_in10 q1 q2 hB9) E_x q1 q2 hB9
theorem own_O.keep {Z : State} {h h' : Heap} {ws : List Addr} {a : Addr} (F : own_O Z h a) (K : Keep h h' ws) : own_O Z h' a := by
  obtain ⟨c, A⟩ := F
  obtain ⟨c', A', -⟩ := own_arrKeep A K
  exact ⟨c', A'⟩
theorem own_neo {Z : State} {h : Heap} {a b : Addr} {a0 : Array Value} {C : String} {k : Nat} (F : Exa Z h a C) (wi : (Jvm.Cond.instantiable C k).before a0 Z = true) (G : own_O Z h b) : a ≠ b := by
  obtain ⟨c, A⟩ := G
  exact ne_arr F wi A
theorem own_k4 {h0 h h' : Heap} {a d e : Addr} (K : Keep h0 h [a]) (K' : Keep h h' [d, e]) : Keep h0 h' [a, d, e] := by
  have K1 : Keep h0 h [a, d, e] := ⟨K.1, fun x c q r => K.2.1 x c q (fun z => r (List.mem_cons.mpr (Or.inl (List.mem_singleton.mp z)))), K.2.2⟩
  exact K1.trans K' (fun x hx => Or.inl (List.mem_cons_of_mem _ hx))
theorem own_k5 {h0 h h' : Heap} {a d e : Addr} {sl : Nat} {v : Value} (K : Keep h0 h [a, d, e]) (W : Wr h h' a sl v) : Keep h0 h' [a, d, e] := K.wr W (Or.inl (List.mem_cons_self ..))
theorem d9_0 : decode prog_95_method_11_code 0 = .ok (.aload_n 0, 1) := by decide +kernel
theorem d9_1 : decode prog_95_method_11_code 1 = .ok (.iconst 1, 1) := by decide +kernel
theorem d9_2 : decode prog_95_method_11_code 2 = .ok (.putfield 27, 3) := by decide +kernel
theorem d9_5 : decode prog_95_method_11_code 5 = .ok (.aload_n 0, 1) := by decide +kernel
theorem d9_6 : decode prog_95_method_11_code 6 = .ok (.aload_n 1, 1) := by decide +kernel
theorem d9_7 : decode prog_95_method_11_code 7 = .ok (.putfield 35, 3) := by decide +kernel
theorem d9_10 : decode prog_95_method_11_code 10 = .ok (.aload_n 1, 1) := by decide +kernel
theorem d9_11 : decode prog_95_method_11_code 11 = .ok (.getfield 16, 3) := by decide +kernel
theorem d9_14 : decode prog_95_method_11_code 14 = .ok (.aload_n 0, 1) := by decide +kernel
theorem pd_7 : parseMethodDescriptor "(Ljava/lang/Object;)Z" = some ⟨[(.object "java/lang/Object")], some .boolean⟩ := by decide +kernel
theorem d9_15 : decode prog_95_method_11_code 15 = .ok (.invokeinterface 54 2, 5) := by decide +kernel
theorem d9_20 : decode prog_95_method_11_code 20 = .ok (.pop, 1) := by decide +kernel
theorem d9_21 : decode prog_95_method_11_code 21 = .ok (.aload_n 0, 1) := by decide +kernel
theorem d9_22 : decode prog_95_method_11_code 22 = .ok (.aload_n 1, 1) := by decide +kernel
theorem d9_23 : decode prog_95_method_11_code 23 = .ok (.getfield 31, 3) := by decide +kernel
theorem d9_26 : decode prog_95_method_11_code 26 = .ok (.putfield 31, 3) := by decide +kernel
theorem d9_29 : decode prog_95_method_11_code 29 = .ok (.return_, 1) := by decide +kernel
theorem ef_rm9 (m : MethodId) (x0 : Addr) (x1 : Addr) : entryFrame m #[(.ref x0), (.ref x1)] 2 = mkF m 0 #[.val (.ref x0), .val (.ref x1)] [] := by first | (simp [entryFrame, mkF, argsToLocals, Value.category]; done) | rfl
def Q_rm9 (Z : State) (a1 a2 dl d1 dfl : Addr) (B : Int) (h0 : Heap) (n0 : Nat) (v : Option Value) (h : Heap) (L : List Loc) : Prop := v = none ∧ Fr n0 L ∧ (∃ ed : Addr, own_O Z h ed ∧ Keep h0 h [a1, dl, ed]) ∧ own_J Z h a1 (.ref a2) ∧ Fld Z h a1 own_JC "downstream" "Ljava/util/List;" (.ref d1) ∧ own_L Z h n0 dfl dl (B + 1) ∧ Old Z n0 h
set_option maxRecDepth 65536 in
set_option maxHeartbeats 40000000 in
theorem rm9 (l : Launch) (Z : State) (a0 : Array Value) (hw : ∀ d ∈ tables_1, d.before a0 Z = true) (ws : List Jvm.Cond) (a1 a2 dl d1 dfl : Addr) (cd : Cell) (u u2 : Value) (B : Int) (h0 : Heap) (n0 : Nat) (Z0 : n0 ≤ h0.size) (J1 : own_J Z h0 a1 u) (J2 : own_J Z h0 a2 u2) (FD1 : Fld Z h0 a1 own_JC "downstream" "Ljava/util/List;" (.ref d1)) (FD : Fld Z h0 a2 own_JC "downstream" "Ljava/util/List;" (.ref dl)) (LL : own_L Z h0 n0 dfl dl B) (ne12 : a2 ≠ a1) (g1 : n0 ≤ a1) (gdl : n0 ≤ dl) (hB0 : 0 ≤ B) (hB9 : B ≤ 8) (O0 : Old Z n0 h0) (SD : Sta Z Z.heap "java/util/ArrayList" "DEFAULTCAPACITY_EMPTY_ELEMENTDATA" "[Ljava/lang/Object;" (.ref dfl)) (DA : Arr Z Z.heap dfl cd (.object "java/lang/Object")) (DS : cd.slots.size = (0 : Int32).toNatClampNeg) :
    MetFree l (⟨"com/example/arthurs_seat/arthursseat/language/Junction", "feed", "(Lcom/example/arthurs_seat/arthursseat/language/Junction;)V"⟩ : MethodName) (head1 (Jvm.Cond.code (⟨"com/example/arthurs_seat/arthursseat/language/Junction", "feed", "(Lcom/example/arthurs_seat/arthursseat/language/Junction;)V"⟩ : MethodName) prog_95_method_11_code 2 none :: ws) ({ frames := 5, cells := 1, slots := 10, locals := 69 } : Room)) (fun a U => a = #[(.ref a1), (.ref a2)] ∧ Z.Warmed39 U.vm ∧ U.heap = h0) (fun _ _ _ _ _ => True) (fun _ U o U' => ∃ v L, o = .returned v ∧ Q_rm9 Z a1 a2 dl d1 dfl B h0 n0 v U'.heap L ∧ FrameEnd U o U' L ({ frames := 5, cells := 1, slots := 10, locals := 69 } : Room).cells ({ frames := 5, cells := 1, slots := 10, locals := 69 } : Room).slots) := by
  refine MetFree.of_bodySF (plainFor_of_name pn_c5) hisR ?_
  intro p e s m args below meth c s₁ Bd hml0 hP hK
  obtain ⟨rfl, hZ, hh⟩ := hP
  have hx := Bd.exec
  have hby := Bd.bytes
  have hml : c.maxLocals = 2 := hml0
  have hown : s.vm.findClass "com/example/arthurs_seat/arthursseat/language/Junction" = some m.cls := findClass_of_methodNamed Bd.named
  have hnm := (name_of_methodNamed Bd.named Bd.method).1
  have X0 : Stand p l e ({ frames := 5, cells := 1, slots := 10, locals := 69 } : Room) s m #[(.ref a1), (.ref a2)] below meth c s₁ [] 0 0 := Stand.of_body Bd
  have e0 : s₁.heap = h0 := by rw [← hh, Bd.state]; rfl
  have N0 := Fr.nil n0
  have pre0 : ∀ t, Steps p.tables e below (s₁.setTop (mkF m 0 #[.val (.ref a1), .val (.ref a2)] [])) t → Steps p.tables e below (s₁.setTop (entryFrame m #[(.ref a1), (.ref a2)] 2)) t := fun t k => castTop (ef_rm9 m a1 a2) k
  obtain ⟨E1, F1u, F1s, f1, F1f⟩ := J1
  obtain ⟨E2, F2u, F2s, f2, F2f⟩ := J2
  have ED := LL.1
  have ne1d : a1 ≠ dl := ne_exa E1 ED (by decide)
  have ne2d : a2 ≠ dl := ne_exa E2 ED (by decide)
  obtain ⟨T289, h289, X289, e289, W289, st289⟩ := putFN X0 hx hZ hown (hw _ (List.mem_of_getElem? (i := 85) rfl)) Via.refl e0 F1f E1 (Or.inl (hw _ (List.mem_of_getElem? (i := 86) rfl))) (hw _ (List.mem_of_getElem? (i := 36) rfl)) (ty := .boolean) (v' := (.int (nar .boolean (1 : Int32)))) (by decide) rfl (fits_nar_bool _) (g := (mkF m 2 #[.val (.ref a1), .val (.ref a2)] [(.int (1 : Int32)), (.ref a1)])) rfl rfl (hb hby d9_2)
  have Fw289 := F1f.same W289
  have E1'290 := E1.wr W289
  have E2'291 := E2.wr W289
  have F1u'292 := F1u.other W289 (Or.inr (slot_ne (Or.inl (hw _ (List.mem_of_getElem? (i := 88) rfl))) (Or.inl (hw _ (List.mem_of_getElem? (i := 86) rfl))) (by decide) (t := (.object "com/example/arthurs_seat/arthursseat/language/Junction")) (t' := .boolean) (by decide) (by decide)))
  have F1s'293 := F1s.other W289 (Or.inr (slot_ne (Or.inl (hw _ (List.mem_of_getElem? (i := 125) rfl))) (Or.inl (hw _ (List.mem_of_getElem? (i := 86) rfl))) (by decide) (t := (.object "com/example/arthurs_seat/arthursseat/model/ConnectionSource")) (t' := .boolean) (by decide) (by decide)))
  have FD1'294 := FD1.other W289 (Or.inr (slot_ne (Or.inr (hw _ (List.mem_of_getElem? (i := 70) rfl))) (Or.inl (hw _ (List.mem_of_getElem? (i := 86) rfl))) (by decide) (t := (.object "java/util/List")) (t' := .boolean) (by decide) (by decide)))
  have FD'295 := FD.other W289 (Or.inl ne12)
  have F2s'296 := F2s.other W289 (Or.inl ne12)
  have O0'297 := O0.wr W289 g1
  have ED'298 := ED.wr W289
  have LL_299 := own_L.keep LL (Keep.of_wr W289) (ninS (Ne.symm ne1d) nin0)
  have Z_300 : n0 ≤ h289.size := Nat.le_trans Z0 (Nat.le_of_eq (Wr.size W289).symm)
  have N289 := Fr.snoc X289 N0 g1
  have K289 : Keep h0 h289 [a1] := (Keep.refl h0 [a1]).wr W289 (Or.inl (List.mem_of_getElem? (i := 0) rfl))
  obtain ⟨T301, h301, X301, e301, W301, st301⟩ := putF X289 hx hZ hown (host := "") (Or.inl (hw _ (List.mem_of_getElem? (i := 87) rfl))) Via.refl e289 F1u'292 E1'290 (Or.inl (hw _ (List.mem_of_getElem? (i := 88) rfl))) (hw _ (List.mem_of_getElem? (i := 36) rfl)) (ty := (.object "com/example/arthurs_seat/arthursseat/language/Junction")) (by decide) rfl rfl (g := (mkF m 7 #[.val (.ref a1), .val (.ref a2)] [(.ref a2), (.ref a1)])) rfl rfl (hb hby d9_7)
  have Fw301 := F1u'292.same W301
  have E1'302 := E1'290.wr W301
  have E2'303 := E2'291.wr W301
  have F1s'304 := F1s'293.other W301 (Or.inr (slot_ne (Or.inl (hw _ (List.mem_of_getElem? (i := 125) rfl))) (Or.inl (hw _ (List.mem_of_getElem? (i := 88) rfl))) (by decide) (t := (.object "com/example/arthurs_seat/arthursseat/model/ConnectionSource")) (t' := (.object "com/example/arthurs_seat/arthursseat/language/Junction")) (by decide) (by decide)))
  have Fw289'305 := Fw289.other W301 (Or.inr (slot_ne (Or.inl (hw _ (List.mem_of_getElem? (i := 86) rfl))) (Or.inl (hw _ (List.mem_of_getElem? (i := 88) rfl))) (by decide) (t := .boolean) (t' := (.object "com/example/arthurs_seat/arthursseat/language/Junction")) (by decide) (by decide)))
  have FD1'306 := FD1'294.other W301 (Or.inr (slot_ne (Or.inr (hw _ (List.mem_of_getElem? (i := 70) rfl))) (Or.inl (hw _ (List.mem_of_getElem? (i := 88) rfl))) (by decide) (t := (.object "java/util/List")) (t' := (.object "com/example/arthurs_seat/arthursseat/language/Junction")) (by decide) (by decide)))
  have FD'307 := FD'295.other W301 (Or.inl ne12)
  have F2s'308 := F2s'296.other W301 (Or.inl ne12)
  have O0'309 := O0'297.wr W301 g1
  have ED'310 := ED'298.wr W301
  have LL_311 := own_L.keep LL_299 (Keep.of_wr W301) (ninS (Ne.symm ne1d) nin0)
  have Z_312 : n0 ≤ h301.size := Nat.le_trans Z_300 (Nat.le_of_eq (Wr.size W301).symm)
  have N301 := Fr.snoc X301 N289 g1
  have K301 : Keep h0 h301 [a1] := K289.wr W301 (Or.inl (List.mem_of_getElem? (i := 0) rfl))
  obtain ⟨T313, X313, e313, st313⟩ := getF X301 hx hZ hown (host := "") (Or.inl (hw _ (List.mem_of_getElem? (i := 69) rfl))) Via.refl e301 FD'307 (g := (mkF m 11 #[.val (.ref a1), .val (.ref a2)] [(.ref a2)])) rfl rfl (hb hby d9_11)
  obtain ⟨cq314, kq314, q314a, q314b, q314c⟩ := isOf hZ e313 ED'310
  obtain ⟨_, _, ⟨T314, L314, k314, n314⟩, -, X314, ⟨Lc314, hQ314, l314, y314, z314⟩, st314⟩ := X313.interfaceBack hx (xi := (⟨"java/util/List", "add", "(Ljava/lang/Object;)Z"⟩ : MethodName)) (y := (⟨"java/util/ArrayList", "add", "(Ljava/lang/Object;)Z"⟩ : MethodName)) hown (mvT hZ (hw _ (List.mem_of_getElem? (i := 89) rfl))) (mvT hZ (hw _ (List.mem_of_getElem? (i := 90) rfl))) (mvT hZ (hw _ (List.mem_of_getElem? (i := 91) rfl))) (mvT hZ (hw _ (List.mem_of_getElem? (i := 92) rfl))) (mvT hZ (hw _ (List.mem_of_getElem? (i := 93) rfl))) (mvT hZ (hw _ (List.mem_of_getElem? (i := 94) rfl))) (mvT hZ (hw _ (List.mem_of_getElem? (i := 95) rfl))) (mvT hZ (hw _ (List.mem_of_getElem? (i := 96) rfl))) (by decide) (backOf (W := 0) (rm10 l Z a0 hw [] dl a1 dfl cd B h301 n0 Z_312 LL_311 gdl O0'309 SD DA DS E1'302 hB0 hB9) hZ (hw _ (List.mem_of_getElem? (i := 97) rfl)) (hw _ (List.mem_of_getElem? (i := 45) rfl)) (by decide) (by decide)) q314a q314b q314c (g := (mkF m 15 #[.val (.ref a1), .val (.ref a2)] [(.ref a1), (.ref dl)])) rfl (by rw [hml]; rfl) (Steps.refl _) (argsL := [(.ref a1)]) (rest := []) (lenOf pd_7 rfl) rfl (by show 2 * 0 + _ ≤ _; exact Nat.le_of_eq rfl) (hb hby d9_15) (fun _ _ => ⟨rfl, e313, (by decide : 0 + 1 ≤ _), (by decide : 0 + 10 ≤ _)⟩)
  dsimp only [Pt.U, Pt.locs, Pt.cells, Pt.slots] at X314 l314 y314 z314 st314 hQ314
  subst l314 y314 z314
  obtain ⟨rfl, N314q, ⟨ed314, O_ed314, Kq314⟩, LLq314, Oq314⟩ := hQ314
  have N314 := Fr.app N301 N314q
  have Z_315 : n0 ≤ T314.heap.size := Nat.le_trans Z_312 Kq314.1
  have ne1e : a1 ≠ ed314 := own_neo (E1'302.keep Kq314) (hw _ (List.mem_of_getElem? (i := 36) rfl)) O_ed314
  have ne2e : a2 ≠ ed314 := own_neo (E2'303.keep Kq314) (hw _ (List.mem_of_getElem? (i := 36) rfl)) O_ed314
  have E1'316 := E1'302.keep Kq314
  have E2'317 := E2'303.keep Kq314
  have Fw301'318 := Fw301.keep Kq314 (ninS ne1d (ninS ne1e nin0))
  have F1s'319 := F1s'304.keep Kq314 (ninS ne1d (ninS ne1e nin0))
  have Fw289'320 := Fw289'305.keep Kq314 (ninS ne1d (ninS ne1e nin0))
  have FD1'321 := FD1'306.keep Kq314 (ninS ne1d (ninS ne1e nin0))
  have FD'322 := FD'307.keep Kq314 (ninS ne2d (ninS ne2e nin0))
  have F2s'323 := F2s'308.keep Kq314 (ninS ne2d (ninS ne2e nin0))
  have Kw314 : Keep h0 T314.heap [a1, dl, ed314] := own_k4 K301 Kq314
  obtain ⟨T324, X324, e324, st324⟩ := getF X314 hx hZ hown (host := "") (Or.inl (hw _ (List.mem_of_getElem? (i := 124) rfl))) Via.refl rfl F2s'323 (g := (mkF m 23 #[.val (.ref a1), .val (.ref a2)] [(.ref a2), (.ref a1)])) rfl rfl (hb hby d9_23)
  obtain ⟨T325, h325, X325, e325, W325, st325⟩ := putF X324 hx hZ hown (host := "") (Or.inl (hw _ (List.mem_of_getElem? (i := 124) rfl))) Via.refl e324 F1s'319 E1'316 (Or.inl (hw _ (List.mem_of_getElem? (i := 125) rfl))) (hw _ (List.mem_of_getElem? (i := 36) rfl)) (ty := (.object "com/example/arthurs_seat/arthursseat/model/ConnectionSource")) (by decide) rfl rfl (g := (mkF m 26 #[.val (.ref a1), .val (.ref a2)] [.null, (.ref a1)])) rfl rfl (hb hby d9_26)
  have Fw325 := F1s'319.same W325
  have E1'326 := E1'316.wr W325
  have E2'327 := E2'317.wr W325
  have Fw301'328 := Fw301'318.other W325 (Or.inr (slot_ne (Or.inl (hw _ (List.mem_of_getElem? (i := 88) rfl))) (Or.inl (hw _ (List.mem_of_getElem? (i := 125) rfl))) (by decide) (t := (.object "com/example/arthurs_seat/arthursseat/language/Junction")) (t' := (.object "com/example/arthurs_seat/arthursseat/model/ConnectionSource")) (by decide) (by decide)))
  have Fw289'329 := Fw289'320.other W325 (Or.inr (slot_ne (Or.inl (hw _ (List.mem_of_getElem? (i := 86) rfl))) (Or.inl (hw _ (List.mem_of_getElem? (i := 125) rfl))) (by decide) (t := .boolean) (t' := (.object "com/example/arthurs_seat/arthursseat/model/ConnectionSource")) (by decide) (by decide)))
  have FD1'330 := FD1'321.other W325 (Or.inr (slot_ne (Or.inr (hw _ (List.mem_of_getElem? (i := 70) rfl))) (Or.inl (hw _ (List.mem_of_getElem? (i := 125) rfl))) (by decide) (t := (.object "java/util/List")) (t' := (.object "com/example/arthurs_seat/arthursseat/model/ConnectionSource")) (by decide) (by decide)))
  have FD'331 := FD'322.other W325 (Or.inl ne12)
  have F2s'332 := F2s'323.other W325 (Or.inl ne12)
  have Oq314'333 := Oq314.wr W325 g1
  have Z_334 : n0 ≤ h325.size := Nat.le_trans Z_315 (Nat.le_of_eq (Wr.size W325).symm)
  have N325 := Fr.snoc X325 N314 g1
  have k335 : ∀ t, Steps p.tables e below (T325.setTop (mkF m 29 #[.val (.ref a1), .val (.ref a2)] [])) t → Steps p.tables e below (s₁.setTop (entryFrame m #[(.ref a1), (.ref a2)] 2)) t := fun t kt => pre0 t (by
      show Steps p.tables e below (s₁.setTop (mkF m 0 #[.val (.ref a1), .val (.ref a2)] [])) _
      refine XS.aloadN X0.here hx rfl (hb hby d9_0) rfl rfl ?_
      show Steps p.tables e below (s₁.setTop (mkF m 1 #[.val (.ref a1), .val (.ref a2)] [(.ref a1)])) _
      refine XS.iconst X0.here hx rfl (hb hby d9_1) ?_
      show Steps p.tables e below (s₁.setTop (mkF m 2 #[.val (.ref a1), .val (.ref a2)] [(.int (1 : Int32)), (.ref a1)])) _
      refine st289 _ ?_
      show Steps p.tables e below (T289.setTop (mkF m 5 #[.val (.ref a1), .val (.ref a2)] [])) _
      refine XS.aloadN X289.here hx rfl (hb hby d9_5) rfl rfl ?_
      show Steps p.tables e below (T289.setTop (mkF m 6 #[.val (.ref a1), .val (.ref a2)] [(.ref a1)])) _
      refine XS.aloadN X289.here hx rfl (hb hby d9_6) rfl rfl ?_
      show Steps p.tables e below (T289.setTop (mkF m 7 #[.val (.ref a1), .val (.ref a2)] [(.ref a2), (.ref a1)])) _
      refine st301 _ ?_
      show Steps p.tables e below (T301.setTop (mkF m 10 #[.val (.ref a1), .val (.ref a2)] [])) _
      refine XS.aloadN X301.here hx rfl (hb hby d9_10) rfl rfl ?_
      show Steps p.tables e below (T301.setTop (mkF m 11 #[.val (.ref a1), .val (.ref a2)] [(.ref a2)])) _
      refine st313 _ ?_
      show Steps p.tables e below (T313.setTop (mkF m 14 #[.val (.ref a1), .val (.ref a2)] [(.ref dl)])) _
      refine XS.aloadN X313.here hx rfl (hb hby d9_14) rfl rfl ?_
      show Steps p.tables e below (T313.setTop (mkF m 15 #[.val (.ref a1), .val (.ref a2)] [(.ref a1), (.ref dl)])) _
      refine st314.trans ?_
      show Steps p.tables e below (T314.setTop (mkF m 20 #[.val (.ref a1), .val (.ref a2)] [(.int (1 : Int32))])) _
      refine XS.pop X314.here hx rfl (hb hby d9_20) rfl rfl ?_
      show Steps p.tables e below (T314.setTop (mkF m 21 #[.val (.ref a1), .val (.ref a2)] [])) _
      refine XS.aloadN X314.here hx rfl (hb hby d9_21) rfl rfl ?_
      show Steps p.tables e below (T314.setTop (mkF m 22 #[.val (.ref a1), .val (.ref a2)] [(.ref a1)])) _
      refine XS.aloadN X314.here hx rfl (hb hby d9_22) rfl rfl ?_
      show Steps p.tables e below (T314.setTop (mkF m 23 #[.val (.ref a1), .val (.ref a2)] [(.ref a2), (.ref a1)])) _
      refine st324 _ ?_
      show Steps p.tables e below (T324.setTop (mkF m 26 #[.val (.ref a1), .val (.ref a2)] [.null, (.ref a1)])) _
      refine st325 _ ?_
      exact kt)
  obtain ⟨fs, hr, hrun, hended, hW, hsame⟩ := X325.leave (v := none) (fun _ => rfl)
  refine ⟨_, _, k335 _ ?_, hrun, hended, _, _, rfl, ?_, ⟨_, rfl⟩, hW, hsame.mono (by decide) (by decide)⟩
  · show Steps p.tables e below (T325.setTop (mkF m 29 #[.val (.ref a1), .val (.ref a2)] [])) _
    exact X325.returnOut hx Bd.returns (hb hby d9_29) hr
  · show Q_rm9 Z a1 a2 dl d1 dfl B h0 n0 _ T325.heap _
    rw [e325]
    exact ⟨rfl, N325, ⟨ed314, own_O.keep O_ed314 (Keep.of_wr W325), own_k5 Kw314 W325⟩, ⟨E1'326, Fw301'328, Fw325, _, Fw289'329⟩, FD1'330, own_L.keep LLq314 (Keep.of_wr W325) (ninS (Ne.symm ne1d) nin0), Oq314'333⟩
theorem d15_0 : decode prog_95_method_6_code 0 = .ok (.aload_n 0, 1) := by decide +kernel
theorem d15_1 : decode prog_95_method_6_code 1 = .ok (.astore_n 1, 1) := by decide +kernel
theorem d15_2 : decode prog_95_method_6_code 2 = .ok (.aload_n 1, 1) := by decide +kernel
theorem d15_3 : decode prog_95_method_6_code 3 = .ok (.getfield 35, 3) := by decide +kernel
theorem d15_6 : decode prog_95_method_6_code 6 = .ok (.ifnull 11, 3) := by decide +kernel
theorem d15_9 : decode prog_95_method_6_code 9 = .ok (.aload_n 1, 1) := by decide +kernel
theorem d15_10 : decode prog_95_method_6_code 10 = .ok (.getfield 35, 3) := by decide +kernel
theorem d15_13 : decode prog_95_method_6_code 13 = .ok (.astore_n 1, 1) := by decide +kernel
theorem d15_14 : decode prog_95_method_6_code 14 = .ok (.goto (-12), 3) := by decide +kernel
theorem d15_17 : decode prog_95_method_6_code 17 = .ok (.aload_n 1, 1) := by decide +kernel
theorem d15_18 : decode prog_95_method_6_code 18 = .ok (.areturn, 1) := by decide +kernel
set_option maxRecDepth 65536 in
set_option maxHeartbeats 40000000 in
theorem own_loop {p : Program} {l : Launch} {e : Env} {R : Room} {s : State} {m : MethodId} {args : Array Value} {below : List Frame} {meth : Method} {c : Code} {locs : List Loc} {cells slots : Nat} {Z : State} {a0 : Array Value} {h0 : Heap} (a00 : Addr)
    (hx : p.tables.exec = Jvm.exec) (hZ : Z.Warmed39 s.vm) (hw : ∀ d ∈ tables_1, d.before a0 Z = true) (hby : c.code = prog_95_method_6_code) (hml : c.maxLocals = 2) (hown : s.vm.findClass "com/example/arthurs_seat/arthursseat/language/Junction" = some m.cls) :
    ∀ (n : Nat) (a r : Addr) (T0 : State) (X0 : Stand p l e R s m args below meth c T0 locs cells slots) (e0 : T0.heap = h0) (U : own_Up Z h0 n a r),
      ∃ T' : State, Stand p l e R s m args below meth c T' locs cells slots ∧ T'.heap = h0 ∧ ∀ t, Steps p.tables e below (T'.setTop (mkF m 17 #[.val (.ref a00), .val (.ref r)] [])) t → Steps p.tables e below (T0.setTop (mkF m 2 #[.val (.ref a00), .val (.ref a)] [])) t := by
  intro n
  induction n with
  | zero =>
    intro a r T0 X0 e0 U
    obtain ⟨rfl, F⟩ := U
    have id0 : ∀ t, Steps p.tables e below (T0.setTop (mkF m 2 #[.val (.ref a00), .val (.ref a)] [])) t → Steps p.tables e below (T0.setTop (mkF m 2 #[.val (.ref a00), .val (.ref a)] [])) t := fun _ h => h
    obtain ⟨T336, X336, e336, st336⟩ := getF X0 hx hZ hown (host := "") (Or.inl (hw _ (List.mem_of_getElem? (i := 87) rfl))) Via.refl e0 F (g := (mkF m 3 #[.val (.ref a00), .val (.ref a)] [(.ref a)])) rfl rfl (hb hby d15_3)
    have k337 : ∀ t, Steps p.tables e below (T336.setTop (mkF m 17 #[.val (.ref a00), .val (.ref a)] [])) t → Steps p.tables e below (T0.setTop (mkF m 2 #[.val (.ref a00), .val (.ref a)] [])) t := fun t kt => id0 t (by
        show Steps p.tables e below (T0.setTop (mkF m 2 #[.val (.ref a00), .val (.ref a)] [])) _
        refine XS.aloadN X0.here hx rfl (hb hby d15_2) rfl rfl ?_
        show Steps p.tables e below (T0.setTop (mkF m 3 #[.val (.ref a00), .val (.ref a)] [(.ref a)])) _
        refine st336 _ ?_
        show Steps p.tables e below (T336.setTop (mkF m 6 #[.val (.ref a00), .val (.ref a)] [.null])) _
        refine XS.ifnullYes X336.here hx rfl (pc0 := 6) (pc' := 17) rfl (hb hby d15_6) rfl (by decide) (by decide) ?_
        exact kt)
    exact ⟨T336, X336, e336, k337⟩
  | succ n ih =>
    intro a r T0 X0 e0 U
    have id0 : ∀ t, Steps p.tables e below (T0.setTop (mkF m 2 #[.val (.ref a00), .val (.ref a)] [])) t → Steps p.tables e below (T0.setTop (mkF m 2 #[.val (.ref a00), .val (.ref a)] [])) t := fun _ h => h
    rcases U with ⟨rfl, F⟩ | ⟨b, F, U⟩
    · obtain ⟨T338, X338, e338, st338⟩ := getF X0 hx hZ hown (host := "") (Or.inl (hw _ (List.mem_of_getElem? (i := 87) rfl))) Via.refl e0 F (g := (mkF m 3 #[.val (.ref a00), .val (.ref a)] [(.ref a)])) rfl rfl (hb hby d15_3)
      have k339 : ∀ t, Steps p.tables e below (T338.setTop (mkF m 17 #[.val (.ref a00), .val (.ref a)] [])) t → Steps p.tables e below (T0.setTop (mkF m 2 #[.val (.ref a00), .val (.ref a)] [])) t := fun t kt => id0 t (by
          show Steps p.tables e below (T0.setTop (mkF m 2 #[.val (.ref a00), .val (.ref a)] [])) _
          refine XS.aloadN X0.here hx rfl (hb hby d15_2) rfl rfl ?_
          show Steps p.tables e below (T0.setTop (mkF m 3 #[.val (.ref a00), .val (.ref a)] [(.ref a)])) _
          refine st338 _ ?_
          show Steps p.tables e below (T338.setTop (mkF m 6 #[.val (.ref a00), .val (.ref a)] [.null])) _
          refine XS.ifnullYes X338.here hx rfl (pc0 := 6) (pc' := 17) rfl (hb hby d15_6) rfl (by decide) (by decide) ?_
          exact kt)
      exact ⟨T338, X338, e338, k339⟩
    · obtain ⟨T340, X340, e340, st340⟩ := getF X0 hx hZ hown (host := "") (Or.inl (hw _ (List.mem_of_getElem? (i := 87) rfl))) Via.refl e0 F (g := (mkF m 3 #[.val (.ref a00), .val (.ref a)] [(.ref a)])) rfl rfl (hb hby d15_3)
      obtain ⟨T341, X341, e341, st341⟩ := getF X340 hx hZ hown (host := "") (Or.inl (hw _ (List.mem_of_getElem? (i := 87) rfl))) Via.refl e340 F (g := (mkF m 10 #[.val (.ref a00), .val (.ref a)] [(.ref a)])) rfl rfl (hb hby d15_10)
      have k342 : ∀ t, Steps p.tables e below (T341.setTop (mkF m 2 #[.val (.ref a00), .val (.ref b)] [])) t → Steps p.tables e below (T0.setTop (mkF m 2 #[.val (.ref a00), .val (.ref a)] [])) t := fun t kt => id0 t (by
          show Steps p.tables e below (T0.setTop (mkF m 2 #[.val (.ref a00), .val (.ref a)] [])) _
          refine XS.aloadN X0.here hx rfl (hb hby d15_2) rfl rfl ?_
          show Steps p.tables e below (T0.setTop (mkF m 3 #[.val (.ref a00), .val (.ref a)] [(.ref a)])) _
          refine st340 _ ?_
          show Steps p.tables e below (T340.setTop (mkF m 6 #[.val (.ref a00), .val (.ref a)] [(.ref b)])) _
          refine XS.ifnullNo X340.here hx rfl (hb hby d15_6) rfl ?_
          show Steps p.tables e below (T340.setTop (mkF m 9 #[.val (.ref a00), .val (.ref a)] [])) _
          refine XS.aloadN X340.here hx rfl (hb hby d15_9) rfl rfl ?_
          show Steps p.tables e below (T340.setTop (mkF m 10 #[.val (.ref a00), .val (.ref a)] [(.ref a)])) _
          refine st341 _ ?_
          show Steps p.tables e below (T341.setTop (mkF m 13 #[.val (.ref a00), .val (.ref a)] [(.ref b)])) _
          refine XS.astoreN X341.here hx rfl (hb hby d15_13) rfl rfl (l' := #[.val (.ref a00), .val (.ref b)]) rfl ?_
          show Steps p.tables e below (T341.setTop (mkF m 14 #[.val (.ref a00), .val (.ref b)] [])) _
          refine XS.goto X341.here hx rfl (pc0 := 14) (pc' := 2) rfl (hb hby d15_14) (by decide) (by decide) ?_
          exact kt)
      obtain ⟨T', X', e', k'⟩ := ih b r T341 X341 e341 U
      exact ⟨T', X', e', fun t kt => k342 t (k' t kt)⟩
theorem ef_rm15 (m : MethodId) (x0 : Addr) : entryFrame m #[(.ref x0)] 2 = mkF m 0 #[.val (.ref x0), .unset] [] := by first | (simp [entryFrame, mkF, argsToLocals, Value.category]; done) | rfl
def Q_rm15 (Z : State) (r : Addr) (h0 : Heap) (n0 : Nat) (v : Option Value) (h : Heap) (L : List Loc) : Prop := v = some (.ref r) ∧ Fr n0 L ∧ h = h0
set_option maxRecDepth 65536 in
set_option maxHeartbeats 40000000 in
theorem rm15 (l : Launch) (Z : State) (a0 : Array Value) (hw : ∀ d ∈ tables_1, d.before a0 Z = true) (ws : List Jvm.Cond) (a1 r : Addr) (n : Nat) (h0 : Heap) (n0 : Nat) (Z0 : n0 ≤ h0.size) (U : own_Up Z h0 n a1 r) :
    MetFree l (⟨"com/example/arthurs_seat/arthursseat/language/Junction", "head", "()Lcom/example/arthurs_seat/arthursseat/language/Junction;"⟩ : MethodName) (head1 (Jvm.Cond.code (⟨"com/example/arthurs_seat/arthursseat/language/Junction", "head", "()Lcom/example/arthurs_seat/arthursseat/language/Junction;"⟩ : MethodName) prog_95_method_6_code 2 (some (.object "com/example/arthurs_seat/arthursseat/language/Junction")) :: ws) ({ frames := 0, cells := 0, slots := 0, locals := 0 } : Room)) (fun a U => a = #[(.ref a1)] ∧ Z.Warmed39 U.vm ∧ U.heap = h0) (fun _ _ _ _ _ => True) (fun _ U o U' => ∃ v L, o = .returned v ∧ Q_rm15 Z r h0 n0 v U'.heap L ∧ FrameEnd U o U' L ({ frames := 0, cells := 0, slots := 0, locals := 0 } : Room).cells ({ frames := 0, cells := 0, slots := 0, locals := 0 } : Room).slots) := by
  refine MetFree.of_bodySF (plainFor_of_name pn_c5) hisR ?_
  intro p e s m args below meth c s₁ Bd hml0 hP hK
  obtain ⟨rfl, hZ, hh⟩ := hP
  have hx := Bd.exec
  have hby := Bd.bytes
  have hml : c.maxLocals = 2 := hml0
  have hown : s.vm.findClass "com/example/arthurs_seat/arthursseat/language/Junction" = some m.cls := findClass_of_methodNamed Bd.named
  have hnm := (name_of_methodNamed Bd.named Bd.method).1
  have X0 : Stand p l e ({ frames := 0, cells := 0, slots := 0, locals := 0 } : Room) s m #[(.ref a1)] below meth c s₁ [] 0 0 := Stand.of_body Bd
  have e0 : s₁.heap = h0 := by rw [← hh, Bd.state]; rfl
  have N0 := Fr.nil n0
  have pre0 : ∀ t, Steps p.tables e below (s₁.setTop (mkF m 0 #[.val (.ref a1), .unset] [])) t → Steps p.tables e below (s₁.setTop (entryFrame m #[(.ref a1)] 2)) t := fun t k => castTop (ef_rm15 m a1) k
  have k343 : ∀ t, Steps p.tables e below (s₁.setTop (mkF m 2 #[.val (.ref a1), .val (.ref a1)] [])) t → Steps p.tables e below (s₁.setTop (entryFrame m #[(.ref a1)] 2)) t := fun t kt => pre0 t (by
      show Steps p.tables e below (s₁.setTop (mkF m 0 #[.val (.ref a1), .unset] [])) _
      refine XS.aloadN X0.here hx rfl (hb hby d15_0) rfl rfl ?_
      show Steps p.tables e below (s₁.setTop (mkF m 1 #[.val (.ref a1), .unset] [(.ref a1)])) _
      refine XS.astoreN X0.here hx rfl (hb hby d15_1) rfl rfl (l' := #[.val (.ref a1), .val (.ref a1)]) rfl ?_
      exact kt)
  obtain ⟨TL, XL, eL, kL⟩ := own_loop (a0 := a0) a1 hx hZ hw hby hml hown n a1 r s₁ X0 e0 U
  have k344 : ∀ t, Steps p.tables e below (TL.setTop (mkF m 17 #[.val (.ref a1), .val (.ref r)] [])) t → Steps p.tables e below (s₁.setTop (entryFrame m #[(.ref a1)] 2)) t := fun t kt => k343 t (kL t kt)
  have k345 : ∀ t, Steps p.tables e below (TL.setTop (mkF m 18 #[.val (.ref a1), .val (.ref r)] [(.ref r)])) t → Steps p.tables e below (s₁.setTop (entryFrame m #[(.ref a1)] 2)) t := fun t kt => k344 t (by
      show Steps p.tables e below (TL.setTop (mkF m 17 #[.val (.ref a1), .val (.ref r)] [])) _
      refine XS.aloadN XL.here hx rfl (hb hby d15_17) rfl rfl ?_
      exact kt)
  obtain ⟨fs, hr, hrun, hended, hW, hsame⟩ := XL.leave (v := some (.ref r)) (fun h => by rw [Bd.returns] at h; cases h)
  refine ⟨_, _, k345 _ ?_, hrun, hended, _, _, rfl, ?_, ⟨_, rfl⟩, hW, hsame.mono (by decide) (by decide)⟩
  · show Steps p.tables e below (TL.setTop (mkF m 18 #[.val (.ref a1), .val (.ref r)] [(.ref r)])) _
    jvm_step XL.here [XL.here.top, hx, (hb hby d15_18), XL.method', Bd.returns, Value.isRef, FieldType.isReference]
    first | (intro acts; rw [hr _ acts rfl rfl rfl]) | rw [hr _ _ rfl rfl rfl]
    exact Steps.refl _
  · show Q_rm15 Z r h0 n0 _ TL.heap _
    rw [eL]
    exact ⟨rfl, N0, rfl⟩
theorem own_in4 {q : Int32} (h : q = (0 : Int32) ∨ q = (1 : Int32) ∨ q = (2 : Int32) ∨ q = (3 : Int32)) : ¬ q < 0 ∧ q < (4 : Int32) := by
  rcases h with rfl | rfl | rfl | rfl <;> decide
theorem own_get {q : Int32} {a b c d : Addr} (h : q = (0 : Int32) ∨ q = (1 : Int32) ∨ q = (2 : Int32) ∨ q = (3 : Int32)) : ([.ref a, .ref b, .ref c, .ref d] : List Value).getD q.toNatClampNeg .null = .ref (own_sel q a b c d) := by
  rcases h with rfl | rfl | rfl | rfl <;> rfl
theorem pd_8 : parseMethodDescriptor "(Ljava/lang/String;II)V" = some ⟨[(.object "java/lang/String"), .int, .int], none⟩ := by decide +kernel
theorem pd_9 : parseMethodDescriptor "(Ljava/lang/String;Lcom/example/arthurs_seat/arthursseat/language/SourceLocation;)V" = some ⟨[(.object "java/lang/String"), (.object "com/example/arthurs_seat/arthursseat/language/SourceLocation")], none⟩ := by decide +kernel
theorem pd_10 : parseMethodDescriptor "(Lcom/example/arthurs_seat/arthursseat/language/Junction;)V" = some ⟨[(.object "com/example/arthurs_seat/arthursseat/language/Junction")], none⟩ := by decide +kernel
theorem pd_11 : parseMethodDescriptor "()Lcom/example/arthurs_seat/arthursseat/language/Junction;" = some ⟨[], some (.object "com/example/arthurs_seat/arthursseat/language/Junction")⟩ := by decide +kernel
theorem pn_c7 : plainName "com/example/arthurs_seat/arthursseat/language/JunctionHeadPinLaw" = true := by first | (simp [plainName, overriddenIn]; done) | decide +kernel
theorem ef_rm0 (m : MethodId) (x0 : Int32) (x1 : Int32) (x2 : Int32) (x3 : Int32) : entryFrame m #[(.int x0), (.int x1), (.int x2), (.int x3)] maxLocals = mkF m 0 #[.val (.int x0), .val (.int x1), .val (.int x2), .val (.int x3), .unset, .unset, .unset, .unset, .unset, .unset, .unset, .unset, .unset, .unset, .unset] [] := by first | (simp [entryFrame, mkF, argsToLocals, Value.category, maxLocals]; done) | rfl
def Q_rm0 (Z : State) (p1 p2 p3 p4 : Int32) (h0 : Heap) (n0 : Nat) (v : Option Value) (h : Heap) (L : List Loc) : Prop := v = some (.int 1) ∧ Fr n0 L
set_option maxRecDepth 65536 in
set_option maxHeartbeats 40000000 in
theorem rm0 (l : Launch) (Z : State) (a0 : Array Value) (hw : ∀ d ∈ tables_1, d.before a0 Z = true) (ws : List Jvm.Cond) (p1 p2 p3 p4 : Int32) (dfl : Addr) (cd : Cell) (h0 : Heap) (n0 : Nat) (Z0 : n0 ≤ h0.size) (O0 : Old Z n0 h0) (SD : Sta Z Z.heap "java/util/ArrayList" "DEFAULTCAPACITY_EMPTY_ELEMENTDATA" "[Ljava/lang/Object;" (.ref dfl)) (DA : Arr Z Z.heap dfl cd (.object "java/lang/Object")) (DS : cd.slots.size = (0 : Int32).toNatClampNeg) (hn0 : n0 = Z.heap.size) (hheld : Jvm.Lit.constHeld Z "com/example/arthurs_seat/arthursseat/language/JunctionHeadPinLaw" 9) (hcw : Jvm.Lit.compactW.before a0 Z = true) :
    MetFree l x (head1 (Jvm.Cond.code x code maxLocals ret :: ws) room_1) (fun a U => a = #[(.int p1), (.int p2), (.int p3), (.int p4)] ∧ U = Z ∧ U.heap = h0) (fun _ _ _ _ _ => True) (fun _ U o U' => ∃ v L, o = .returned v ∧ Q_rm0 Z p1 p2 p3 p4 h0 n0 v U'.heap L ∧ ReturnedEndW U o U' L room_1.cells room_1.slots) := by
  refine MetFree.of_bodySF (plainFor_of_name pn_c7) hisR ?_
  intro p e s m args below meth c s₁ Bd hml0 hP hK
  obtain ⟨rfl, hUZ, hh⟩ := hP
  have hZ : Z.Warmed39 s.vm := hUZ ▸ State.Warmed39.refl s
  have hx := Bd.exec
  have hby := Bd.bytes
  have hml : c.maxLocals = 15 := hml0
  have hown : s.vm.findClass "com/example/arthurs_seat/arthursseat/language/JunctionHeadPinLaw" = some m.cls := findClass_of_methodNamed Bd.named
  have hnm := (name_of_methodNamed Bd.named Bd.method).1
  have X0 : Stand p l e room_1 (s.setVm s.vm) m #[(.int p1), (.int p2), (.int p3), (.int p4)] below meth c s₁ [] 0 0 := Stand.of_body Bd
  have e0 : s₁.heap = h0 := by rw [← hh, Bd.state]; rfl
  have N0 := Fr.nil n0
  have pre0 : ∀ t, Steps p.tables e below (s₁.setTop (mkF m 0 #[.val (.int p1), .val (.int p2), .val (.int p3), .val (.int p4), .unset, .unset, .unset, .unset, .unset, .unset, .unset, .unset, .unset, .unset, .unset] [])) t → Steps p.tables e below (s₁.setTop (entryFrame m #[(.int p1), (.int p2), (.int p3), (.int p4)] maxLocals)) t := fun t k => castTop (ef_rm0 m p1 p2 p3 p4) k
  have hS0 : s.Since s.vm h0.size := (State.WarmedH.refl s).since _
  have hk0 : h0.size ≤ h0.size := Nat.le_refl _
  replace hZ : Z.Warmed39 (s.setVm s.vm).vm := hZ
  replace hown : (s.setVm s.vm).vm.findClass "com/example/arthurs_seat/arthursseat/language/JunctionHeadPinLaw" = some m.cls := hown
  have wS : ∀ a ∈ Bundle.stringAtoms, a.before a0 Z = true := fun a ha => by
    simp only [Bundle.stringAtoms, Bundle.sN, List.mem_cons, List.not_mem_nil, or_false] at ha
    rcases ha with rfl | rfl | rfl | rfl | rfl | rfl | rfl
    · exact (hw _ (List.mem_of_getElem? (i := 4) rfl))
    · exact (hw _ (List.mem_of_getElem? (i := 5) rfl))
    · exact (hw _ (List.mem_of_getElem? (i := 6) rfl))
    · exact (hw _ (List.mem_of_getElem? (i := 7) rfl))
    · exact (hw _ (List.mem_of_getElem? (i := 8) rfl))
    · exact (hw _ (List.mem_of_getElem? (i := 9) rfl))
    · exact (hw _ (List.mem_of_getElem? (i := 10) rfl))
  have hkeep : ∀ (b : Addr) (cl : Cell), Z.heap[b]? = some cl → s.heap[b]? = some cl := by rw [hUZ]; exact fun _ _ q => q
  have IB0 : IB Z s.vm [] := by rw [hUZ]; exact IB.start
  have NS0 : Fr s.heap.size [] := Fr.nil _
  obtain ⟨T346, h346, X346, e346, E346, A346, D346, -, st346⟩ := newO X0 hx hZ hown (hw _ (List.mem_of_getElem? (i := 0) rfl)) (hw _ (List.mem_of_getElem? (i := 1) rfl)) (hw _ (List.mem_of_getElem? (i := 2) rfl)) e0 (g := (mkF m 0 #[.val (.int p1), .val (.int p2), .val (.int p3), .val (.int p4), .unset, .unset, .unset, .unset, .unset, .unset, .unset, .unset, .unset, .unset, .unset] [])) rfl (hb hby at_0) (by decide) (by decide)
  obtain ⟨b346, g346⟩ : ∃ z, z = h0.size := ⟨_, rfl⟩
  rw [← g346] at A346 D346 st346
  have g_b346 : n0 ≤ b346 := Nat.le_trans Z0 (Nat.le_of_eq g346.symm)
  have O0'347 := O0.ext E346
  have Z_348 : n0 ≤ h346.size := Nat.le_trans Z0 E346.1
  have hk_349 := Nat.le_trans hk0 E346.1
  have F_file_b346 : Fld Z h346 b346 "com/example/arthurs_seat/arthursseat/language/SourceLocation" "file" "Ljava/lang/String;" .null := D346 (Or.inr (hw _ (List.mem_of_getElem? (i := 29) rfl))) (ty := (.object "java/lang/String")) (by decide)
  have F_line_b346 : Fld Z h346 b346 "com/example/arthurs_seat/arthursseat/language/SourceLocation" "line" "I" (.int (0 : Int32)) := D346 (Or.inr (hw _ (List.mem_of_getElem? (i := 31) rfl))) (ty := .int) (by decide)
  have F_column_b346 : Fld Z h346 b346 "com/example/arthurs_seat/arthursseat/language/SourceLocation" "column" "I" (.int (0 : Int32)) := D346 (Or.inr (hw _ (List.mem_of_getElem? (i := 33) rfl))) (ty := .int) (by decide)
  have k350 : ∀ t, Steps p.tables e below (T346.setTop (mkF m 4 #[.val (.int p1), .val (.int p2), .val (.int p3), .val (.int p4), .unset, .unset, .unset, .unset, .unset, .unset, .unset, .unset, .unset, .unset, .unset] [(.ref b346), (.ref b346)])) t → Steps p.tables e below (s₁.setTop (entryFrame m #[(.int p1), (.int p2), (.int p3), (.int p4)] maxLocals)) t := fun t kt => pre0 t (by
      let A0 : Array Slot := #[.val (.int p1), .val (.int p2), .val (.int p3), .val (.int p4), .unset, .unset, .unset, .unset, .unset, .unset, .unset, .unset, .unset, .unset, .unset]
      show Steps p.tables e below (s₁.setTop (mkF m 0 A0 [])) _
      refine st346 _ ?_
      show Steps p.tables e below (T346.setTop (mkF m 3 A0 [(.ref b346)])) _
      refine XS.dup X346.here hx rfl (hb hby at_3) rfl rfl ?_
      exact kt)
  obtain ⟨b351, T351, h351, kk351, bs, kb, X351, e351, E351, hS351, hk351, hZ, hown, E_f, -, F_f, V_f, -, -, -, st351⟩ := ldcSV (s := s) (vm0 := s.vm) X346 hx hZ hown (hw _ (List.mem_of_getElem? (i := 3) rfl)) wS e346 hS0 hk_349 NS0 hkeep IB0 (by simp) hheld hcw (vs := [.int (102 : Int32)]) (z := (1 : Int32)) ⟨by decide, by decide⟩ (by decide) (by decide) (g := (mkF m 4 #[.val (.int p1), .val (.int p2), .val (.int p3), .val (.int p4), .unset, .unset, .unset, .unset, .unset, .unset, .unset, .unset, .unset, .unset, .unset] [(.ref b346), (.ref b346)])) rfl (hb hby at_4) (n := 4) (by decide) (by decide) (by decide) (by decide)
  have O0'352 := O0'347.ext E351
  have A346'353 := A346.ext E351
  have F_file_b346'354 := F_file_b346.ext E351
  have F_line_b346'355 := F_line_b346.ext E351
  have F_column_b346'356 := F_column_b346.ext E351
  have Z_357 : n0 ≤ h351.size := Nat.le_trans Z_348 E351.1
  have ne_f1 : b351 ≠ b346 := Exa.ne E_f A346'353 (by decide)
  obtain ⟨cf, Af, -⟩ := id V_f
  have ne_f2 : bs ≠ b346 := Ne.symm (ne_arr A346'353 (hw _ (List.mem_of_getElem? (i := 1) rfl)) Af)
  obtain ⟨_, _, ⟨T358, L358, k358, n358⟩, -, X358, hSa358, hsz358, ⟨Lc358, hQ358, l358, y358, z358⟩, st358⟩ := X351.specialBackS hx (y := (⟨"com/example/arthurs_seat/arthursseat/language/SourceLocation", "<init>", "(Ljava/lang/String;II)V"⟩ : MethodName)) rfl hown (mvT hZ (hw _ (List.mem_of_getElem? (i := 11) rfl))) (mvT hZ (hw _ (List.mem_of_getElem? (i := 12) rfl))) (mvT hZ (hw _ (List.mem_of_getElem? (i := 13) rfl))) (by decide) (backOfS (W := 1) (rm1 l Z a0 hw [] b346 b351 bs kb [.int (102 : Int32)] h351 n0 Z_357 A346'353 g_b346 F_file_b346'354 F_line_b346'355 F_column_b346'356 E_f F_f V_f ne_f1 ne_f2) hZ (hw _ (List.mem_of_getElem? (i := 13) rfl)) (hw _ (List.mem_of_getElem? (i := 2) rfl)) (by decide) (by decide)) (g := (mkF m 8 #[.val (.int p1), .val (.int p2), .val (.int p3), .val (.int p4), .unset, .unset, .unset, .unset, .unset, .unset, .unset, .unset, .unset, .unset, .unset] [(.int (1 : Int32)), (.int (1 : Int32)), (.ref b351), (.ref b346), (.ref b346)])) rfl (by rw [hml]; rfl) (Steps.refl _) (a := b346) (argsL := [(.ref b351), (.int (1 : Int32)), (.int (1 : Int32))]) (rest := [(.ref b346)]) (lenOf pd_8 rfl) rfl (by show 2 * 0 + _ ≤ _; exact Nat.le_of_eq rfl) (hb hby at_8) (fun _ _ => ⟨rfl, e351, (by decide : 3 + 2 ≤ _), (by decide : 11 + 20 ≤ _)⟩)
  dsimp only [Pt.U, Pt.locs, Pt.cells, Pt.slots] at X358 l358 y358 z358 st358 hQ358 hSa358 hsz358
  subst l358 y358 z358
  obtain ⟨rfl, N358q, Kq358⟩ := hQ358
  have N358 := Fr.app N0 N358q
  obtain ⟨X358r, hS358, hZ, hown⟩ := rebS hS351 (by rw [e351]; exact hk351) X358 hSa358 hsz358 hZ hown
  have hkr358 : T358.heap.size ≤ T358.heap.size := Nat.le_refl _
  have Z_359 : n0 ≤ T358.heap.size := Nat.le_trans Z_357 Kq358.1
  have Oq358 := O0'352.keep Kq358 (allS g_b346 all0)
  obtain ⟨T360, h360, kc360, X360, e360, E360, A360, O360, st360⟩ := newR X358r hx hZ hown (hw _ (List.mem_of_getElem? (i := 34) rfl)) (hw _ (List.mem_of_getElem? (i := 35) rfl)) rfl (g := (mkF m 14 #[.val (.int p1), .val (.int p2), .val (.int p3), .val (.int p4), .val (.ref b346), .unset, .unset, .unset, .unset, .unset, .unset, .unset, .unset, .unset, .unset] [(.int (4 : Int32))])) rfl (hb hby at_14) rfl (by decide) (cap := 4) (by decide) (by decide) (by decide) (by decide)
  obtain ⟨b360, g360⟩ : ∃ z, z = T358.heap.size := ⟨_, rfl⟩
  rw [← g360] at A360 st360
  have g_b360 : n0 ≤ b360 := Nat.le_trans Z_359 (Nat.le_of_eq g360.symm)
  have Oq358'361 := Oq358.ext E360
  have Z_362 : n0 ≤ h360.size := Nat.le_trans Z_359 E360.1
  have hk_363 := Nat.le_trans hkr358 E360.1
  have V_b360 : Arv Z h360 b360 kc360 (.object "com/example/arthurs_seat/arthursseat/language/Junction") (4 : Int32) [.null, .null, .null, .null] .null := (Arv.new A360 (by decide)).pad (pad_rep [] .null 4)
  obtain ⟨T364, h364, X364, e364, E364, A364, D364, -, st364⟩ := newO X360 hx hZ hown (hw _ (List.mem_of_getElem? (i := 34) rfl)) (hw _ (List.mem_of_getElem? (i := 36) rfl)) (hw _ (List.mem_of_getElem? (i := 37) rfl)) e360 (g := (mkF m 22 #[.val (.int p1), .val (.int p2), .val (.int p3), .val (.int p4), .val (.ref b346), .val (.ref b360), .unset, .unset, .unset, .unset, .unset, .unset, .unset, .unset, .unset] [(.int (0 : Int32)), (.ref b360)])) rfl (hb hby at_22) (by decide) (by decide)
  obtain ⟨b364, g364⟩ : ∃ z, z = h360.size := ⟨_, rfl⟩
  rw [← g364] at A364 D364 st364
  have ne_b360_b364 : b360 ≠ b364 := Nat.ne_of_lt (Nat.lt_of_lt_of_le V_b360.lt (Nat.le_of_eq g364.symm))
  have g_b364 : n0 ≤ b364 := Nat.le_trans Z_362 (Nat.le_of_eq g364.symm)
  have Oq358'365 := Oq358'361.ext E364
  have V_b360'366 := V_b360.ext E364
  have Z_367 : n0 ≤ h364.size := Nat.le_trans Z_362 E364.1
  have hk_368 := Nat.le_trans hk_363 E364.1
  have F_targets_b364 : Fld Z h364 b364 "com/example/arthurs_seat/arthursseat/language/Junction" "targets" "Ljava/util/List;" .null := D364 (Or.inr (hw _ (List.mem_of_getElem? (i := 68) rfl))) (ty := (.object "java/util/List")) (by decide)
  have F_downstream_b364 : Fld Z h364 b364 "com/example/arthurs_seat/arthursseat/language/Junction" "downstream" "Ljava/util/List;" .null := D364 (Or.inr (hw _ (List.mem_of_getElem? (i := 70) rfl))) (ty := (.object "java/util/List")) (by decide)
  have F_name_b364 : Fld Z h364 b364 "com/example/arthurs_seat/arthursseat/language/Junction" "name" "Ljava/lang/String;" .null := D364 (Or.inr (hw _ (List.mem_of_getElem? (i := 72) rfl))) (ty := (.object "java/lang/String")) (by decide)
  have F_location_b364 : Fld Z h364 b364 "com/example/arthurs_seat/arthursseat/language/Junction" "location" "Lcom/example/arthurs_seat/arthursseat/language/SourceLocation;" .null := D364 (Or.inr (hw _ (List.mem_of_getElem? (i := 74) rfl))) (ty := (.object "com/example/arthurs_seat/arthursseat/language/SourceLocation")) (by decide)
  have F_fed_b364 : Fld Z h364 b364 "com/example/arthurs_seat/arthursseat/language/Junction" "fed" "Z" (.int (0 : Int32)) := D364 (Or.inl (hw _ (List.mem_of_getElem? (i := 86) rfl))) (ty := .boolean) (by decide)
  have F_upstream_b364 : Fld Z h364 b364 "com/example/arthurs_seat/arthursseat/language/Junction" "upstream" "Lcom/example/arthurs_seat/arthursseat/language/Junction;" .null := D364 (Or.inl (hw _ (List.mem_of_getElem? (i := 88) rfl))) (ty := (.object "com/example/arthurs_seat/arthursseat/language/Junction")) (by decide)
  have F_source_b364 : Fld Z h364 b364 "com/example/arthurs_seat/arthursseat/language/Junction" "source" "Lcom/example/arthurs_seat/arthursseat/model/ConnectionSource;" .null := D364 (Or.inl (hw _ (List.mem_of_getElem? (i := 125) rfl))) (ty := (.object "com/example/arthurs_seat/arthursseat/model/ConnectionSource")) (by decide)
  have k369 : ∀ t, Steps p.tables e below (T364.setTop (mkF m 26 #[.val (.int p1), .val (.int p2), .val (.int p3), .val (.int p4), .val (.ref b346), .val (.ref b360), .unset, .unset, .unset, .unset, .unset, .unset, .unset, .unset, .unset] [(.ref b364), (.ref b364), (.int (0 : Int32)), (.ref b360)])) t → Steps p.tables e below (s₁.setTop (entryFrame m #[(.int p1), (.int p2), (.int p3), (.int p4)] maxLocals)) t := fun t kt => k350 t (by
      let A0 : Array Slot := #[.val (.int p1), .val (.int p2), .val (.int p3), .val (.int p4), .unset, .unset, .unset, .unset, .unset, .unset, .unset, .unset, .unset, .unset, .unset]
      show Steps p.tables e below (T346.setTop (mkF m 4 A0 [(.ref b346), (.ref b346)])) _
      refine st351 _ ?_
      show Steps p.tables e below (T351.setTop (mkF m 6 A0 [(.ref b351), (.ref b346), (.ref b346)])) _
      refine XS.iconst X351.here hx rfl (hb hby at_6) ?_
      show Steps p.tables e below (T351.setTop (mkF m 7 A0 [(.int (1 : Int32)), (.ref b351), (.ref b346), (.ref b346)])) _
      refine XS.iconst X351.here hx rfl (hb hby at_7) ?_
      show Steps p.tables e below (T351.setTop (mkF m 8 A0 [(.int (1 : Int32)), (.int (1 : Int32)), (.ref b351), (.ref b346), (.ref b346)])) _
      refine st358.trans ?_
      show Steps p.tables e below (T358.setTop (mkF m 11 A0 [(.ref b346)])) _
      let A1 : Array Slot := #[.val (.int p1), .val (.int p2), .val (.int p3), .val (.int p4), .val (.ref b346), .unset, .unset, .unset, .unset, .unset, .unset, .unset, .unset, .unset, .unset]
      refine XS.astore X358r.here hx rfl (hb hby at_11) rfl rfl (l' := A1) rfl ?_
      show Steps p.tables e below (T358.setTop (mkF m 13 A1 [])) _
      refine XS.iconst X358r.here hx rfl (hb hby at_13) ?_
      show Steps p.tables e below (T358.setTop (mkF m 14 A1 [(.int (4 : Int32))])) _
      refine st360 _ ?_
      show Steps p.tables e below (T360.setTop (mkF m 17 A1 [(.ref b360)])) _
      let A2 : Array Slot := #[.val (.int p1), .val (.int p2), .val (.int p3), .val (.int p4), .val (.ref b346), .val (.ref b360), .unset, .unset, .unset, .unset, .unset, .unset, .unset, .unset, .unset]
      refine XS.astore X360.here hx rfl (hb hby at_17) rfl rfl (l' := A2) rfl ?_
      show Steps p.tables e below (T360.setTop (mkF m 19 A2 [])) _
      refine XS.aload X360.here hx rfl (hb hby at_19) rfl rfl ?_
      show Steps p.tables e below (T360.setTop (mkF m 21 A2 [(.ref b360)])) _
      refine XS.iconst X360.here hx rfl (hb hby at_21) ?_
      show Steps p.tables e below (T360.setTop (mkF m 22 A2 [(.int (0 : Int32)), (.ref b360)])) _
      refine st364 _ ?_
      show Steps p.tables e below (T364.setTop (mkF m 25 A2 [(.ref b364), (.int (0 : Int32)), (.ref b360)])) _
      refine XS.dup X364.here hx rfl (hb hby at_25) rfl rfl ?_
      exact kt)
  obtain ⟨b370, T370, h370, kk370, X370, e370, E370, hS370, hk370, hZ, hown, st370⟩ := ldcS (s := s) (vm0 := T358.vm) X364 hx hZ hown (hw _ (List.mem_of_getElem? (i := 38) rfl)) wS e364 hS358 hk_368 (g := (mkF m 26 #[.val (.int p1), .val (.int p2), .val (.int p3), .val (.int p4), .val (.ref b346), .val (.ref b360), .unset, .unset, .unset, .unset, .unset, .unset, .unset, .unset, .unset] [(.ref b364), (.ref b364), (.int (0 : Int32)), (.ref b360)])) rfl (hb hby at_26) (n := 4) (by decide) (by decide) (by decide) (by decide)
  have Oq358'371 := Oq358'365.ext E370
  have V_b360'372 := V_b360'366.ext E370
  have A364'373 := A364.ext E370
  have F_targets_b364'374 := F_targets_b364.ext E370
  have F_downstream_b364'375 := F_downstream_b364.ext E370
  have F_name_b364'376 := F_name_b364.ext E370
  have F_location_b364'377 := F_location_b364.ext E370
  have F_fed_b364'378 := F_fed_b364.ext E370
  have F_upstream_b364'379 := F_upstream_b364.ext E370
  have F_source_b364'380 := F_source_b364.ext E370
  have Z_381 : n0 ≤ h370.size := Nat.le_trans Z_367 E370.1
  obtain ⟨_, _, ⟨T382, L382, k382, n382⟩, -, X382, ⟨Lc382, hQ382, l382, y382, z382⟩, st382⟩ := X370.specialBack hx (y := (⟨"com/example/arthurs_seat/arthursseat/language/Junction", "<init>", "(Ljava/lang/String;Lcom/example/arthurs_seat/arthursseat/language/SourceLocation;)V"⟩ : MethodName)) rfl hown (mvT hZ (hw _ (List.mem_of_getElem? (i := 39) rfl))) (mvT hZ (hw _ (List.mem_of_getElem? (i := 40) rfl))) (mvT hZ (hw _ (List.mem_of_getElem? (i := 41) rfl))) (by decide) (backOf (W := 3) (rm5 l Z a0 hw [] b364 b370 b346 dfl cd h370 n0 Z_381 A364'373 g_b364 F_targets_b364'374 F_downstream_b364'375 F_name_b364'376 F_location_b364'377 F_fed_b364'378 F_upstream_b364'379 F_source_b364'380 Oq358'371 SD DA DS) hZ (hw _ (List.mem_of_getElem? (i := 41) rfl)) (hw _ (List.mem_of_getElem? (i := 37) rfl)) (by decide) (by decide)) (g := (mkF m 30 #[.val (.int p1), .val (.int p2), .val (.int p3), .val (.int p4), .val (.ref b346), .val (.ref b360), .unset, .unset, .unset, .unset, .unset, .unset, .unset, .unset, .unset] [(.ref b346), (.ref b370), (.ref b364), (.ref b364), (.int (0 : Int32)), (.ref b360)])) rfl (by rw [hml]; rfl) (Steps.refl _) (a := b364) (argsL := [(.ref b370), (.ref b346)]) (rest := [(.ref b364), (.int (0 : Int32)), (.ref b360)]) (lenOf pd_9 rfl) rfl (by show 2 * 0 + _ ≤ _; exact Nat.le_of_eq rfl) (hb hby at_30) (fun _ _ => ⟨rfl, e370, (by decide : 9 + 2 ≤ _), (by decide : 50 + 6 ≤ _)⟩)
  dsimp only [Pt.U, Pt.locs, Pt.cells, Pt.slots] at X382 l382 y382 z382 st382 hQ382
  subst l382 y382 z382
  obtain ⟨rfl, N382q, Kq382, Eq382, Fq382_fed, Fq382_upstream, Fq382_source, dl382, sz_dl382, g_dl382, Fq382_downstream, Edl382, Fdl382_modCount, Fdl382_size, Fdl382_elementData⟩ := hQ382
  have N382 := Fr.app N358 N382q
  have ne_b360_dl382 : b360 ≠ dl382 := Nat.ne_of_lt (Nat.lt_of_lt_of_le V_b360'372.lt sz_dl382)
  have ne_b364_dl382 : b364 ≠ dl382 := Nat.ne_of_lt (Nat.lt_of_lt_of_le A364'373.lt sz_dl382)
  have Z_383 : n0 ≤ T382.heap.size := Nat.le_trans Z_381 Kq382.1
  have hk_384 := Nat.le_trans hk370 Kq382.1
  have Oq358'385 := Oq358'371.keep Kq382 (allS g_b364 all0)
  have V_b360'386 := V_b360'372.keep Kq382 (ninS ne_b360_b364 nin0)
  have A364'387 := A364'373.keep Kq382
  obtain ⟨cl388, Ar388, q388, S388, M388, H388, G388⟩ := id V_b360'386
  have hin389 : ¬ ((0 : Int32) < 0 ∨ cl388.slots.size ≤ ((0 : Int32)).toNatClampNeg) := inb_of S388 ⟨by decide, by decide⟩
  obtain ⟨T389, h389, X389, e389, W389, st389⟩ := stR X382 hx hZ rfl Ar388 (j := (0 : Int32)) hin389 rfl (Sto.ofV Ar388 q388 O360 (Ins.self Eq382)) (g := (mkF m 33 #[.val (.int p1), .val (.int p2), .val (.int p3), .val (.int p4), .val (.ref b346), .val (.ref b360), .unset, .unset, .unset, .unset, .unset, .unset, .unset, .unset, .unset] [(.ref b364), (.int (0 : Int32)), (.ref b360)])) rfl rfl (hb hby at_33)
  have V_b360_389 : Arv Z h389 b360 kc360 (.object "com/example/arthurs_seat/arthursseat/language/Junction") (4 : Int32) [(.ref b364), .null, .null, .null] .null := Arv.set Ar388 q388 S388 M388 H388 G388 rfl W389 0 rfl (Nat.le_of_ble_eq_true rfl)
  have Oq358'390 := Oq358'385.wr W389 g_b360
  have Eq382'391 := Eq382.wr W389
  have Fq382_fed'392 := Fq382_fed.other W389 (Or.inl (Ne.symm ne_b360_b364))
  have Fq382_upstream'393 := Fq382_upstream.other W389 (Or.inl (Ne.symm ne_b360_b364))
  have Fq382_source'394 := Fq382_source.other W389 (Or.inl (Ne.symm ne_b360_b364))
  have Fq382_downstream'395 := Fq382_downstream.other W389 (Or.inl (Ne.symm ne_b360_b364))
  have Edl382'396 := Edl382.wr W389
  have Fdl382_modCount'397 := Fdl382_modCount.other W389 (Or.inl (Ne.symm ne_b360_dl382))
  have Fdl382_size'398 := Fdl382_size.other W389 (Or.inl (Ne.symm ne_b360_dl382))
  have Fdl382_elementData'399 := Fdl382_elementData.other W389 (Or.inl (Ne.symm ne_b360_dl382))
  have Z_400 : n0 ≤ h389.size := Nat.le_trans Z_383 (Nat.le_of_eq (Wr.size W389).symm)
  have hk_401 := Nat.le_trans hk_384 (Nat.le_of_eq (Wr.size W389).symm)
  have N389 := Fr.snoc X389 N382 g_b360
  obtain ⟨T402, h402, X402, e402, E402, A402, D402, -, st402⟩ := newO X389 hx hZ hown (hw _ (List.mem_of_getElem? (i := 34) rfl)) (hw _ (List.mem_of_getElem? (i := 36) rfl)) (hw _ (List.mem_of_getElem? (i := 37) rfl)) e389 (g := (mkF m 37 #[.val (.int p1), .val (.int p2), .val (.int p3), .val (.int p4), .val (.ref b346), .val (.ref b360), .unset, .unset, .unset, .unset, .unset, .unset, .unset, .unset, .unset] [(.int (1 : Int32)), (.ref b360)])) rfl (hb hby at_37) (by decide) (by decide)
  obtain ⟨b402, g402⟩ : ∃ z, z = h389.size := ⟨_, rfl⟩
  rw [← g402] at A402 D402 st402
  have ne_b360_b402 : b360 ≠ b402 := Nat.ne_of_lt (Nat.lt_of_lt_of_le V_b360_389.lt (Nat.le_of_eq g402.symm))
  have ne_b364_b402 : b364 ≠ b402 := Nat.ne_of_lt (Nat.lt_of_lt_of_le Eq382'391.lt (Nat.le_of_eq g402.symm))
  have ne_dl382_b402 : dl382 ≠ b402 := Nat.ne_of_lt (Nat.lt_of_lt_of_le Edl382'396.lt (Nat.le_of_eq g402.symm))
  have g_b402 : n0 ≤ b402 := Nat.le_trans Z_400 (Nat.le_of_eq g402.symm)
  have Oq358'403 := Oq358'390.ext E402
  have V_b360_389'404 := V_b360_389.ext E402
  have Eq382'405 := Eq382'391.ext E402
  have Fq382_fed'406 := Fq382_fed'392.ext E402
  have Fq382_upstream'407 := Fq382_upstream'393.ext E402
  have Fq382_source'408 := Fq382_source'394.ext E402
  have Fq382_downstream'409 := Fq382_downstream'395.ext E402
  have Edl382'410 := Edl382'396.ext E402
  have Fdl382_modCount'411 := Fdl382_modCount'397.ext E402
  have Fdl382_size'412 := Fdl382_size'398.ext E402
  have Fdl382_elementData'413 := Fdl382_elementData'399.ext E402
  have Z_414 : n0 ≤ h402.size := Nat.le_trans Z_400 E402.1
  have hk_415 := Nat.le_trans hk_401 E402.1
  have F_targets_b402 : Fld Z h402 b402 "com/example/arthurs_seat/arthursseat/language/Junction" "targets" "Ljava/util/List;" .null := D402 (Or.inr (hw _ (List.mem_of_getElem? (i := 68) rfl))) (ty := (.object "java/util/List")) (by decide)
  have F_downstream_b402 : Fld Z h402 b402 "com/example/arthurs_seat/arthursseat/language/Junction" "downstream" "Ljava/util/List;" .null := D402 (Or.inr (hw _ (List.mem_of_getElem? (i := 70) rfl))) (ty := (.object "java/util/List")) (by decide)
  have F_name_b402 : Fld Z h402 b402 "com/example/arthurs_seat/arthursseat/language/Junction" "name" "Ljava/lang/String;" .null := D402 (Or.inr (hw _ (List.mem_of_getElem? (i := 72) rfl))) (ty := (.object "java/lang/String")) (by decide)
  have F_location_b402 : Fld Z h402 b402 "com/example/arthurs_seat/arthursseat/language/Junction" "location" "Lcom/example/arthurs_seat/arthursseat/language/SourceLocation;" .null := D402 (Or.inr (hw _ (List.mem_of_getElem? (i := 74) rfl))) (ty := (.object "com/example/arthurs_seat/arthursseat/language/SourceLocation")) (by decide)
  have F_fed_b402 : Fld Z h402 b402 "com/example/arthurs_seat/arthursseat/language/Junction" "fed" "Z" (.int (0 : Int32)) := D402 (Or.inl (hw _ (List.mem_of_getElem? (i := 86) rfl))) (ty := .boolean) (by decide)
  have F_upstream_b402 : Fld Z h402 b402 "com/example/arthurs_seat/arthursseat/language/Junction" "upstream" "Lcom/example/arthurs_seat/arthursseat/language/Junction;" .null := D402 (Or.inl (hw _ (List.mem_of_getElem? (i := 88) rfl))) (ty := (.object "com/example/arthurs_seat/arthursseat/language/Junction")) (by decide)
  have F_source_b402 : Fld Z h402 b402 "com/example/arthurs_seat/arthursseat/language/Junction" "source" "Lcom/example/arthurs_seat/arthursseat/model/ConnectionSource;" .null := D402 (Or.inl (hw _ (List.mem_of_getElem? (i := 125) rfl))) (ty := (.object "com/example/arthurs_seat/arthursseat/model/ConnectionSource")) (by decide)
  have k416 : ∀ t, Steps p.tables e below (T402.setTop (mkF m 41 #[.val (.int p1), .val (.int p2), .val (.int p3), .val (.int p4), .val (.ref b346), .val (.ref b360), .unset, .unset, .unset, .unset, .unset, .unset, .unset, .unset, .unset] [(.ref b402), (.ref b402), (.int (1 : Int32)), (.ref b360)])) t → Steps p.tables e below (s₁.setTop (entryFrame m #[(.int p1), (.int p2), (.int p3), (.int p4)] maxLocals)) t := fun t kt => k369 t (by
      let A0 : Array Slot := #[.val (.int p1), .val (.int p2), .val (.int p3), .val (.int p4), .val (.ref b346), .val (.ref b360), .unset, .unset, .unset, .unset, .unset, .unset, .unset, .unset, .unset]
      show Steps p.tables e below (T364.setTop (mkF m 26 A0 [(.ref b364), (.ref b364), (.int (0 : Int32)), (.ref b360)])) _
      refine st370 _ ?_
      show Steps p.tables e below (T370.setTop (mkF m 28 A0 [(.ref b370), (.ref b364), (.ref b364), (.int (0 : Int32)), (.ref b360)])) _
      refine XS.aload X370.here hx rfl (hb hby at_28) rfl rfl ?_
      show Steps p.tables e below (T370.setTop (mkF m 30 A0 [(.ref b346), (.ref b370), (.ref b364), (.ref b364), (.int (0 : Int32)), (.ref b360)])) _
      refine st382.trans ?_
      show Steps p.tables e below (T382.setTop (mkF m 33 A0 [(.ref b364), (.int (0 : Int32)), (.ref b360)])) _
      refine st389 _ ?_
      show Steps p.tables e below (T389.setTop (mkF m 34 A0 [])) _
      refine XS.aload X389.here hx rfl (hb hby at_34) rfl rfl ?_
      show Steps p.tables e below (T389.setTop (mkF m 36 A0 [(.ref b360)])) _
      refine XS.iconst X389.here hx rfl (hb hby at_36) ?_
      show Steps p.tables e below (T389.setTop (mkF m 37 A0 [(.int (1 : Int32)), (.ref b360)])) _
      refine st402 _ ?_
      show Steps p.tables e below (T402.setTop (mkF m 40 A0 [(.ref b402), (.int (1 : Int32)), (.ref b360)])) _
      refine XS.dup X402.here hx rfl (hb hby at_40) rfl rfl ?_
      exact kt)
  obtain ⟨b417, T417, h417, kk417, X417, e417, E417, hS417, hk417, hZ, hown, st417⟩ := ldcS (s := s) (vm0 := T370.vm) X402 hx hZ hown (hw _ (List.mem_of_getElem? (i := 76) rfl)) wS e402 hS370 hk_415 (g := (mkF m 41 #[.val (.int p1), .val (.int p2), .val (.int p3), .val (.int p4), .val (.ref b346), .val (.ref b360), .unset, .unset, .unset, .unset, .unset, .unset, .unset, .unset, .unset] [(.ref b402), (.ref b402), (.int (1 : Int32)), (.ref b360)])) rfl (hb hby at_41) (n := 4) (by decide) (by decide) (by decide) (by decide)
  have Oq358'418 := Oq358'403.ext E417
  have V_b360_389'419 := V_b360_389'404.ext E417
  have Eq382'420 := Eq382'405.ext E417
  have Fq382_fed'421 := Fq382_fed'406.ext E417
  have Fq382_upstream'422 := Fq382_upstream'407.ext E417
  have Fq382_source'423 := Fq382_source'408.ext E417
  have Fq382_downstream'424 := Fq382_downstream'409.ext E417
  have Edl382'425 := Edl382'410.ext E417
  have Fdl382_modCount'426 := Fdl382_modCount'411.ext E417
  have Fdl382_size'427 := Fdl382_size'412.ext E417
  have Fdl382_elementData'428 := Fdl382_elementData'413.ext E417
  have A402'429 := A402.ext E417
  have F_targets_b402'430 := F_targets_b402.ext E417
  have F_downstream_b402'431 := F_downstream_b402.ext E417
  have F_name_b402'432 := F_name_b402.ext E417
  have F_location_b402'433 := F_location_b402.ext E417
  have F_fed_b402'434 := F_fed_b402.ext E417
  have F_upstream_b402'435 := F_upstream_b402.ext E417
  have F_source_b402'436 := F_source_b402.ext E417
  have Z_437 : n0 ≤ h417.size := Nat.le_trans Z_414 E417.1
  obtain ⟨_, _, ⟨T438, L438, k438, n438⟩, -, X438, ⟨Lc438, hQ438, l438, y438, z438⟩, st438⟩ := X417.specialBack hx (y := (⟨"com/example/arthurs_seat/arthursseat/language/Junction", "<init>", "(Ljava/lang/String;Lcom/example/arthurs_seat/arthursseat/language/SourceLocation;)V"⟩ : MethodName)) rfl hown (mvT hZ (hw _ (List.mem_of_getElem? (i := 39) rfl))) (mvT hZ (hw _ (List.mem_of_getElem? (i := 40) rfl))) (mvT hZ (hw _ (List.mem_of_getElem? (i := 41) rfl))) (by decide) (backOf (W := 3) (rm5 l Z a0 hw [] b402 b417 b346 dfl cd h417 n0 Z_437 A402'429 g_b402 F_targets_b402'430 F_downstream_b402'431 F_name_b402'432 F_location_b402'433 F_fed_b402'434 F_upstream_b402'435 F_source_b402'436 Oq358'418 SD DA DS) hZ (hw _ (List.mem_of_getElem? (i := 41) rfl)) (hw _ (List.mem_of_getElem? (i := 37) rfl)) (by decide) (by decide)) (g := (mkF m 45 #[.val (.int p1), .val (.int p2), .val (.int p3), .val (.int p4), .val (.ref b346), .val (.ref b360), .unset, .unset, .unset, .unset, .unset, .unset, .unset, .unset, .unset] [(.ref b346), (.ref b417), (.ref b402), (.ref b402), (.int (1 : Int32)), (.ref b360)])) rfl (by rw [hml]; rfl) (Steps.refl _) (a := b402) (argsL := [(.ref b417), (.ref b346)]) (rest := [(.ref b402), (.int (1 : Int32)), (.ref b360)]) (lenOf pd_9 rfl) rfl (by show 2 * 0 + _ ≤ _; exact Nat.le_of_eq rfl) (hb hby at_45) (fun _ _ => ⟨rfl, e417, (by decide : 14 + 2 ≤ _), (by decide : 71 + 6 ≤ _)⟩)
  dsimp only [Pt.U, Pt.locs, Pt.cells, Pt.slots] at X438 l438 y438 z438 st438 hQ438
  subst l438 y438 z438
  obtain ⟨rfl, N438q, Kq438, Eq438, Fq438_fed, Fq438_upstream, Fq438_source, dl438, sz_dl438, g_dl438, Fq438_downstream, Edl438, Fdl438_modCount, Fdl438_size, Fdl438_elementData⟩ := hQ438
  have N438 := Fr.app N389 N438q
  have ne_b360_dl438 : b360 ≠ dl438 := Nat.ne_of_lt (Nat.lt_of_lt_of_le V_b360_389'419.lt sz_dl438)
  have ne_b364_dl438 : b364 ≠ dl438 := Nat.ne_of_lt (Nat.lt_of_lt_of_le Eq382'420.lt sz_dl438)
  have ne_dl382_dl438 : dl382 ≠ dl438 := Nat.ne_of_lt (Nat.lt_of_lt_of_le Edl382'425.lt sz_dl438)
  have ne_b402_dl438 : b402 ≠ dl438 := Nat.ne_of_lt (Nat.lt_of_lt_of_le A402'429.lt sz_dl438)
  have Z_439 : n0 ≤ T438.heap.size := Nat.le_trans Z_437 Kq438.1
  have hk_440 := Nat.le_trans hk417 Kq438.1
  have Oq358'441 := Oq358'418.keep Kq438 (allS g_b402 all0)
  have V_b360_389'442 := V_b360_389'419.keep Kq438 (ninS ne_b360_b402 nin0)
  have Eq382'443 := Eq382'420.keep Kq438
  have Fq382_fed'444 := Fq382_fed'421.keep Kq438 (ninS ne_b364_b402 nin0)
  have Fq382_upstream'445 := Fq382_upstream'422.keep Kq438 (ninS ne_b364_b402 nin0)
  have Fq382_source'446 := Fq382_source'423.keep Kq438 (ninS ne_b364_b402 nin0)
  have Fq382_downstream'447 := Fq382_downstream'424.keep Kq438 (ninS ne_b364_b402 nin0)
  have Edl382'448 := Edl382'425.keep Kq438
  have Fdl382_modCount'449 := Fdl382_modCount'426.keep Kq438 (ninS ne_dl382_b402 nin0)
  have Fdl382_size'450 := Fdl382_size'427.keep Kq438 (ninS ne_dl382_b402 nin0)
  have Fdl382_elementData'451 := Fdl382_elementData'428.keep Kq438 (ninS ne_dl382_b402 nin0)
  have A402'452 := A402'429.keep Kq438
  obtain ⟨cl453, Ar453, q453, S453, M453, H453, G453⟩ := id V_b360_389'442
  have hin454 : ¬ ((1 : Int32) < 0 ∨ cl453.slots.size ≤ ((1 : Int32)).toNatClampNeg) := inb_of S453 ⟨by decide, by decide⟩
  obtain ⟨T454, h454, X454, e454, W454, st454⟩ := stR X438 hx hZ rfl Ar453 (j := (1 : Int32)) hin454 rfl (Sto.ofV Ar453 q453 O360 (Ins.self Eq438)) (g := (mkF m 48 #[.val (.int p1), .val (.int p2), .val (.int p3), .val (.int p4), .val (.ref b346), .val (.ref b360), .unset, .unset, .unset, .unset, .unset, .unset, .unset, .unset, .unset] [(.ref b402), (.int (1 : Int32)), (.ref b360)])) rfl rfl (hb hby at_48)
  have V_b360_454 : Arv Z h454 b360 kc360 (.object "com/example/arthurs_seat/arthursseat/language/Junction") (4 : Int32) [(.ref b364), (.ref b402), .null, .null] .null := Arv.set Ar453 q453 S453 M453 H453 G453 rfl W454 1 rfl (Nat.le_of_ble_eq_true rfl)
  have Oq358'455 := Oq358'441.wr W454 g_b360
  have Eq382'456 := Eq382'443.wr W454
  have Fq382_fed'457 := Fq382_fed'444.other W454 (Or.inl (Ne.symm ne_b360_b364))
  have Fq382_upstream'458 := Fq382_upstream'445.other W454 (Or.inl (Ne.symm ne_b360_b364))
  have Fq382_source'459 := Fq382_source'446.other W454 (Or.inl (Ne.symm ne_b360_b364))
  have Fq382_downstream'460 := Fq382_downstream'447.other W454 (Or.inl (Ne.symm ne_b360_b364))
  have Edl382'461 := Edl382'448.wr W454
  have Fdl382_modCount'462 := Fdl382_modCount'449.other W454 (Or.inl (Ne.symm ne_b360_dl382))
  have Fdl382_size'463 := Fdl382_size'450.other W454 (Or.inl (Ne.symm ne_b360_dl382))
  have Fdl382_elementData'464 := Fdl382_elementData'451.other W454 (Or.inl (Ne.symm ne_b360_dl382))
  have Eq438'465 := Eq438.wr W454
  have Fq438_fed'466 := Fq438_fed.other W454 (Or.inl (Ne.symm ne_b360_b402))
  have Fq438_upstream'467 := Fq438_upstream.other W454 (Or.inl (Ne.symm ne_b360_b402))
  have Fq438_source'468 := Fq438_source.other W454 (Or.inl (Ne.symm ne_b360_b402))
  have Fq438_downstream'469 := Fq438_downstream.other W454 (Or.inl (Ne.symm ne_b360_b402))
  have Edl438'470 := Edl438.wr W454
  have Fdl438_modCount'471 := Fdl438_modCount.other W454 (Or.inl (Ne.symm ne_b360_dl438))
  have Fdl438_size'472 := Fdl438_size.other W454 (Or.inl (Ne.symm ne_b360_dl438))
  have Fdl438_elementData'473 := Fdl438_elementData.other W454 (Or.inl (Ne.symm ne_b360_dl438))
  have Z_474 : n0 ≤ h454.size := Nat.le_trans Z_439 (Nat.le_of_eq (Wr.size W454).symm)
  have hk_475 := Nat.le_trans hk_440 (Nat.le_of_eq (Wr.size W454).symm)
  have N454 := Fr.snoc X454 N438 g_b360
  obtain ⟨T476, h476, X476, e476, E476, A476, D476, -, st476⟩ := newO X454 hx hZ hown (hw _ (List.mem_of_getElem? (i := 34) rfl)) (hw _ (List.mem_of_getElem? (i := 36) rfl)) (hw _ (List.mem_of_getElem? (i := 37) rfl)) e454 (g := (mkF m 52 #[.val (.int p1), .val (.int p2), .val (.int p3), .val (.int p4), .val (.ref b346), .val (.ref b360), .unset, .unset, .unset, .unset, .unset, .unset, .unset, .unset, .unset] [(.int (2 : Int32)), (.ref b360)])) rfl (hb hby at_52) (by decide) (by decide)
  obtain ⟨b476, g476⟩ : ∃ z, z = h454.size := ⟨_, rfl⟩
  rw [← g476] at A476 D476 st476
  have ne_b360_b476 : b360 ≠ b476 := Nat.ne_of_lt (Nat.lt_of_lt_of_le V_b360_454.lt (Nat.le_of_eq g476.symm))
  have ne_b364_b476 : b364 ≠ b476 := Nat.ne_of_lt (Nat.lt_of_lt_of_le Eq382'456.lt (Nat.le_of_eq g476.symm))
  have ne_dl382_b476 : dl382 ≠ b476 := Nat.ne_of_lt (Nat.lt_of_lt_of_le Edl382'461.lt (Nat.le_of_eq g476.symm))
  have ne_b402_b476 : b402 ≠ b476 := Nat.ne_of_lt (Nat.lt_of_lt_of_le Eq438'465.lt (Nat.le_of_eq g476.symm))
  have ne_dl438_b476 : dl438 ≠ b476 := Nat.ne_of_lt (Nat.lt_of_lt_of_le Edl438'470.lt (Nat.le_of_eq g476.symm))
  have g_b476 : n0 ≤ b476 := Nat.le_trans Z_474 (Nat.le_of_eq g476.symm)
  have Oq358'477 := Oq358'455.ext E476
  have V_b360_454'478 := V_b360_454.ext E476
  have Eq382'479 := Eq382'456.ext E476
  have Fq382_fed'480 := Fq382_fed'457.ext E476
  have Fq382_upstream'481 := Fq382_upstream'458.ext E476
  have Fq382_source'482 := Fq382_source'459.ext E476
  have Fq382_downstream'483 := Fq382_downstream'460.ext E476
  have Edl382'484 := Edl382'461.ext E476
  have Fdl382_modCount'485 := Fdl382_modCount'462.ext E476
  have Fdl382_size'486 := Fdl382_size'463.ext E476
  have Fdl382_elementData'487 := Fdl382_elementData'464.ext E476
  have Eq438'488 := Eq438'465.ext E476
  have Fq438_fed'489 := Fq438_fed'466.ext E476
  have Fq438_upstream'490 := Fq438_upstream'467.ext E476
  have Fq438_source'491 := Fq438_source'468.ext E476
  have Fq438_downstream'492 := Fq438_downstream'469.ext E476
  have Edl438'493 := Edl438'470.ext E476
  have Fdl438_modCount'494 := Fdl438_modCount'471.ext E476
  have Fdl438_size'495 := Fdl438_size'472.ext E476
  have Fdl438_elementData'496 := Fdl438_elementData'473.ext E476
  have Z_497 : n0 ≤ h476.size := Nat.le_trans Z_474 E476.1
  have hk_498 := Nat.le_trans hk_475 E476.1
  have F_targets_b476 : Fld Z h476 b476 "com/example/arthurs_seat/arthursseat/language/Junction" "targets" "Ljava/util/List;" .null := D476 (Or.inr (hw _ (List.mem_of_getElem? (i := 68) rfl))) (ty := (.object "java/util/List")) (by decide)
  have F_downstream_b476 : Fld Z h476 b476 "com/example/arthurs_seat/arthursseat/language/Junction" "downstream" "Ljava/util/List;" .null := D476 (Or.inr (hw _ (List.mem_of_getElem? (i := 70) rfl))) (ty := (.object "java/util/List")) (by decide)
  have F_name_b476 : Fld Z h476 b476 "com/example/arthurs_seat/arthursseat/language/Junction" "name" "Ljava/lang/String;" .null := D476 (Or.inr (hw _ (List.mem_of_getElem? (i := 72) rfl))) (ty := (.object "java/lang/String")) (by decide)
  have F_location_b476 : Fld Z h476 b476 "com/example/arthurs_seat/arthursseat/language/Junction" "location" "Lcom/example/arthurs_seat/arthursseat/language/SourceLocation;" .null := D476 (Or.inr (hw _ (List.mem_of_getElem? (i := 74) rfl))) (ty := (.object "com/example/arthurs_seat/arthursseat/language/SourceLocation")) (by decide)
  have F_fed_b476 : Fld Z h476 b476 "com/example/arthurs_seat/arthursseat/language/Junction" "fed" "Z" (.int (0 : Int32)) := D476 (Or.inl (hw _ (List.mem_of_getElem? (i := 86) rfl))) (ty := .boolean) (by decide)
  have F_upstream_b476 : Fld Z h476 b476 "com/example/arthurs_seat/arthursseat/language/Junction" "upstream" "Lcom/example/arthurs_seat/arthursseat/language/Junction;" .null := D476 (Or.inl (hw _ (List.mem_of_getElem? (i := 88) rfl))) (ty := (.object "com/example/arthurs_seat/arthursseat/language/Junction")) (by decide)
  have F_source_b476 : Fld Z h476 b476 "com/example/arthurs_seat/arthursseat/language/Junction" "source" "Lcom/example/arthurs_seat/arthursseat/model/ConnectionSource;" .null := D476 (Or.inl (hw _ (List.mem_of_getElem? (i := 125) rfl))) (ty := (.object "com/example/arthurs_seat/arthursseat/model/ConnectionSource")) (by decide)
  have k499 : ∀ t, Steps p.tables e below (T476.setTop (mkF m 56 #[.val (.int p1), .val (.int p2), .val (.int p3), .val (.int p4), .val (.ref b346), .val (.ref b360), .unset, .unset, .unset, .unset, .unset, .unset, .unset, .unset, .unset] [(.ref b476), (.ref b476), (.int (2 : Int32)), (.ref b360)])) t → Steps p.tables e below (s₁.setTop (entryFrame m #[(.int p1), (.int p2), (.int p3), (.int p4)] maxLocals)) t := fun t kt => k416 t (by
      let A0 : Array Slot := #[.val (.int p1), .val (.int p2), .val (.int p3), .val (.int p4), .val (.ref b346), .val (.ref b360), .unset, .unset, .unset, .unset, .unset, .unset, .unset, .unset, .unset]
      show Steps p.tables e below (T402.setTop (mkF m 41 A0 [(.ref b402), (.ref b402), (.int (1 : Int32)), (.ref b360)])) _
      refine st417 _ ?_
      show Steps p.tables e below (T417.setTop (mkF m 43 A0 [(.ref b417), (.ref b402), (.ref b402), (.int (1 : Int32)), (.ref b360)])) _
      refine XS.aload X417.here hx rfl (hb hby at_43) rfl rfl ?_
      show Steps p.tables e below (T417.setTop (mkF m 45 A0 [(.ref b346), (.ref b417), (.ref b402), (.ref b402), (.int (1 : Int32)), (.ref b360)])) _
      refine st438.trans ?_
      show Steps p.tables e below (T438.setTop (mkF m 48 A0 [(.ref b402), (.int (1 : Int32)), (.ref b360)])) _
      refine st454 _ ?_
      show Steps p.tables e below (T454.setTop (mkF m 49 A0 [])) _
      refine XS.aload X454.here hx rfl (hb hby at_49) rfl rfl ?_
      show Steps p.tables e below (T454.setTop (mkF m 51 A0 [(.ref b360)])) _
      refine XS.iconst X454.here hx rfl (hb hby at_51) ?_
      show Steps p.tables e below (T454.setTop (mkF m 52 A0 [(.int (2 : Int32)), (.ref b360)])) _
      refine st476 _ ?_
      show Steps p.tables e below (T476.setTop (mkF m 55 A0 [(.ref b476), (.int (2 : Int32)), (.ref b360)])) _
      refine XS.dup X476.here hx rfl (hb hby at_55) rfl rfl ?_
      exact kt)
  obtain ⟨b500, T500, h500, kk500, X500, e500, E500, hS500, hk500, hZ, hown, st500⟩ := ldcS (s := s) (vm0 := T417.vm) X476 hx hZ hown (hw _ (List.mem_of_getElem? (i := 77) rfl)) wS e476 hS417 hk_498 (g := (mkF m 56 #[.val (.int p1), .val (.int p2), .val (.int p3), .val (.int p4), .val (.ref b346), .val (.ref b360), .unset, .unset, .unset, .unset, .unset, .unset, .unset, .unset, .unset] [(.ref b476), (.ref b476), (.int (2 : Int32)), (.ref b360)])) rfl (hb hby at_56) (n := 4) (by decide) (by decide) (by decide) (by decide)
  have Oq358'501 := Oq358'477.ext E500
  have V_b360_454'502 := V_b360_454'478.ext E500
  have Eq382'503 := Eq382'479.ext E500
  have Fq382_fed'504 := Fq382_fed'480.ext E500
  have Fq382_upstream'505 := Fq382_upstream'481.ext E500
  have Fq382_source'506 := Fq382_source'482.ext E500
  have Fq382_downstream'507 := Fq382_downstream'483.ext E500
  have Edl382'508 := Edl382'484.ext E500
  have Fdl382_modCount'509 := Fdl382_modCount'485.ext E500
  have Fdl382_size'510 := Fdl382_size'486.ext E500
  have Fdl382_elementData'511 := Fdl382_elementData'487.ext E500
  have Eq438'512 := Eq438'488.ext E500
  have Fq438_fed'513 := Fq438_fed'489.ext E500
  have Fq438_upstream'514 := Fq438_upstream'490.ext E500
  have Fq438_source'515 := Fq438_source'491.ext E500
  have Fq438_downstream'516 := Fq438_downstream'492.ext E500
  have Edl438'517 := Edl438'493.ext E500
  have Fdl438_modCount'518 := Fdl438_modCount'494.ext E500
  have Fdl438_size'519 := Fdl438_size'495.ext E500
  have Fdl438_elementData'520 := Fdl438_elementData'496.ext E500
  have A476'521 := A476.ext E500
  have F_targets_b476'522 := F_targets_b476.ext E500
  have F_downstream_b476'523 := F_downstream_b476.ext E500
  have F_name_b476'524 := F_name_b476.ext E500
  have F_location_b476'525 := F_location_b476.ext E500
  have F_fed_b476'526 := F_fed_b476.ext E500
  have F_upstream_b476'527 := F_upstream_b476.ext E500
  have F_source_b476'528 := F_source_b476.ext E500
  have Z_529 : n0 ≤ h500.size := Nat.le_trans Z_497 E500.1
  obtain ⟨_, _, ⟨T530, L530, k530, n530⟩, -, X530, ⟨Lc530, hQ530, l530, y530, z530⟩, st530⟩ := X500.specialBack hx (y := (⟨"com/example/arthurs_seat/arthursseat/language/Junction", "<init>", "(Ljava/lang/String;Lcom/example/arthurs_seat/arthursseat/language/SourceLocation;)V"⟩ : MethodName)) rfl hown (mvT hZ (hw _ (List.mem_of_getElem? (i := 39) rfl))) (mvT hZ (hw _ (List.mem_of_getElem? (i := 40) rfl))) (mvT hZ (hw _ (List.mem_of_getElem? (i := 41) rfl))) (by decide) (backOf (W := 3) (rm5 l Z a0 hw [] b476 b500 b346 dfl cd h500 n0 Z_529 A476'521 g_b476 F_targets_b476'522 F_downstream_b476'523 F_name_b476'524 F_location_b476'525 F_fed_b476'526 F_upstream_b476'527 F_source_b476'528 Oq358'501 SD DA DS) hZ (hw _ (List.mem_of_getElem? (i := 41) rfl)) (hw _ (List.mem_of_getElem? (i := 37) rfl)) (by decide) (by decide)) (g := (mkF m 60 #[.val (.int p1), .val (.int p2), .val (.int p3), .val (.int p4), .val (.ref b346), .val (.ref b360), .unset, .unset, .unset, .unset, .unset, .unset, .unset, .unset, .unset] [(.ref b346), (.ref b500), (.ref b476), (.ref b476), (.int (2 : Int32)), (.ref b360)])) rfl (by rw [hml]; rfl) (Steps.refl _) (a := b476) (argsL := [(.ref b500), (.ref b346)]) (rest := [(.ref b476), (.int (2 : Int32)), (.ref b360)]) (lenOf pd_9 rfl) rfl (by show 2 * 0 + _ ≤ _; exact Nat.le_of_eq rfl) (hb hby at_60) (fun _ _ => ⟨rfl, e500, (by decide : 19 + 2 ≤ _), (by decide : 92 + 6 ≤ _)⟩)
  dsimp only [Pt.U, Pt.locs, Pt.cells, Pt.slots] at X530 l530 y530 z530 st530 hQ530
  subst l530 y530 z530
  obtain ⟨rfl, N530q, Kq530, Eq530, Fq530_fed, Fq530_upstream, Fq530_source, dl530, sz_dl530, g_dl530, Fq530_downstream, Edl530, Fdl530_modCount, Fdl530_size, Fdl530_elementData⟩ := hQ530
  have N530 := Fr.app N454 N530q
  have ne_b360_dl530 : b360 ≠ dl530 := Nat.ne_of_lt (Nat.lt_of_lt_of_le V_b360_454'502.lt sz_dl530)
  have ne_b364_dl530 : b364 ≠ dl530 := Nat.ne_of_lt (Nat.lt_of_lt_of_le Eq382'503.lt sz_dl530)
  have ne_dl382_dl530 : dl382 ≠ dl530 := Nat.ne_of_lt (Nat.lt_of_lt_of_le Edl382'508.lt sz_dl530)
  have ne_b402_dl530 : b402 ≠ dl530 := Nat.ne_of_lt (Nat.lt_of_lt_of_le Eq438'512.lt sz_dl530)
  have ne_dl438_dl530 : dl438 ≠ dl530 := Nat.ne_of_lt (Nat.lt_of_lt_of_le Edl438'517.lt sz_dl530)
  have ne_b476_dl530 : b476 ≠ dl530 := Nat.ne_of_lt (Nat.lt_of_lt_of_le A476'521.lt sz_dl530)
  have Z_531 : n0 ≤ T530.heap.size := Nat.le_trans Z_529 Kq530.1
  have hk_532 := Nat.le_trans hk500 Kq530.1
  have Oq358'533 := Oq358'501.keep Kq530 (allS g_b476 all0)
  have V_b360_454'534 := V_b360_454'502.keep Kq530 (ninS ne_b360_b476 nin0)
  have Eq382'535 := Eq382'503.keep Kq530
  have Fq382_fed'536 := Fq382_fed'504.keep Kq530 (ninS ne_b364_b476 nin0)
  have Fq382_upstream'537 := Fq382_upstream'505.keep Kq530 (ninS ne_b364_b476 nin0)
  have Fq382_source'538 := Fq382_source'506.keep Kq530 (ninS ne_b364_b476 nin0)
  have Fq382_downstream'539 := Fq382_downstream'507.keep Kq530 (ninS ne_b364_b476 nin0)
  have Edl382'540 := Edl382'508.keep Kq530
  have Fdl382_modCount'541 := Fdl382_modCount'509.keep Kq530 (ninS ne_dl382_b476 nin0)
  have Fdl382_size'542 := Fdl382_size'510.keep Kq530 (ninS ne_dl382_b476 nin0)
  have Fdl382_elementData'543 := Fdl382_elementData'511.keep Kq530 (ninS ne_dl382_b476 nin0)
  have Eq438'544 := Eq438'512.keep Kq530
  have Fq438_fed'545 := Fq438_fed'513.keep Kq530 (ninS ne_b402_b476 nin0)
  have Fq438_upstream'546 := Fq438_upstream'514.keep Kq530 (ninS ne_b402_b476 nin0)
  have Fq438_source'547 := Fq438_source'515.keep Kq530 (ninS ne_b402_b476 nin0)
  have Fq438_downstream'548 := Fq438_downstream'516.keep Kq530 (ninS ne_b402_b476 nin0)
  have Edl438'549 := Edl438'517.keep Kq530
  have Fdl438_modCount'550 := Fdl438_modCount'518.keep Kq530 (ninS ne_dl438_b476 nin0)
  have Fdl438_size'551 := Fdl438_size'519.keep Kq530 (ninS ne_dl438_b476 nin0)
  have Fdl438_elementData'552 := Fdl438_elementData'520.keep Kq530 (ninS ne_dl438_b476 nin0)
  have A476'553 := A476'521.keep Kq530
  obtain ⟨cl554, Ar554, q554, S554, M554, H554, G554⟩ := id V_b360_454'534
  have hin555 : ¬ ((2 : Int32) < 0 ∨ cl554.slots.size ≤ ((2 : Int32)).toNatClampNeg) := inb_of S554 ⟨by decide, by decide⟩
  obtain ⟨T555, h555, X555, e555, W555, st555⟩ := stR X530 hx hZ rfl Ar554 (j := (2 : Int32)) hin555 rfl (Sto.ofV Ar554 q554 O360 (Ins.self Eq530)) (g := (mkF m 63 #[.val (.int p1), .val (.int p2), .val (.int p3), .val (.int p4), .val (.ref b346), .val (.ref b360), .unset, .unset, .unset, .unset, .unset, .unset, .unset, .unset, .unset] [(.ref b476), (.int (2 : Int32)), (.ref b360)])) rfl rfl (hb hby at_63)
  have V_b360_555 : Arv Z h555 b360 kc360 (.object "com/example/arthurs_seat/arthursseat/language/Junction") (4 : Int32) [(.ref b364), (.ref b402), (.ref b476), .null] .null := Arv.set Ar554 q554 S554 M554 H554 G554 rfl W555 2 rfl (Nat.le_of_ble_eq_true rfl)
  have Oq358'556 := Oq358'533.wr W555 g_b360
  have Eq382'557 := Eq382'535.wr W555
  have Fq382_fed'558 := Fq382_fed'536.other W555 (Or.inl (Ne.symm ne_b360_b364))
  have Fq382_upstream'559 := Fq382_upstream'537.other W555 (Or.inl (Ne.symm ne_b360_b364))
  have Fq382_source'560 := Fq382_source'538.other W555 (Or.inl (Ne.symm ne_b360_b364))
  have Fq382_downstream'561 := Fq382_downstream'539.other W555 (Or.inl (Ne.symm ne_b360_b364))
  have Edl382'562 := Edl382'540.wr W555
  have Fdl382_modCount'563 := Fdl382_modCount'541.other W555 (Or.inl (Ne.symm ne_b360_dl382))
  have Fdl382_size'564 := Fdl382_size'542.other W555 (Or.inl (Ne.symm ne_b360_dl382))
  have Fdl382_elementData'565 := Fdl382_elementData'543.other W555 (Or.inl (Ne.symm ne_b360_dl382))
  have Eq438'566 := Eq438'544.wr W555
  have Fq438_fed'567 := Fq438_fed'545.other W555 (Or.inl (Ne.symm ne_b360_b402))
  have Fq438_upstream'568 := Fq438_upstream'546.other W555 (Or.inl (Ne.symm ne_b360_b402))
  have Fq438_source'569 := Fq438_source'547.other W555 (Or.inl (Ne.symm ne_b360_b402))
  have Fq438_downstream'570 := Fq438_downstream'548.other W555 (Or.inl (Ne.symm ne_b360_b402))
  have Edl438'571 := Edl438'549.wr W555
  have Fdl438_modCount'572 := Fdl438_modCount'550.other W555 (Or.inl (Ne.symm ne_b360_dl438))
  have Fdl438_size'573 := Fdl438_size'551.other W555 (Or.inl (Ne.symm ne_b360_dl438))
  have Fdl438_elementData'574 := Fdl438_elementData'552.other W555 (Or.inl (Ne.symm ne_b360_dl438))
  have Eq530'575 := Eq530.wr W555
  have Fq530_fed'576 := Fq530_fed.other W555 (Or.inl (Ne.symm ne_b360_b476))
  have Fq530_upstream'577 := Fq530_upstream.other W555 (Or.inl (Ne.symm ne_b360_b476))
  have Fq530_source'578 := Fq530_source.other W555 (Or.inl (Ne.symm ne_b360_b476))
  have Fq530_downstream'579 := Fq530_downstream.other W555 (Or.inl (Ne.symm ne_b360_b476))
  have Edl530'580 := Edl530.wr W555
  have Fdl530_modCount'581 := Fdl530_modCount.other W555 (Or.inl (Ne.symm ne_b360_dl530))
  have Fdl530_size'582 := Fdl530_size.other W555 (Or.inl (Ne.symm ne_b360_dl530))
  have Fdl530_elementData'583 := Fdl530_elementData.other W555 (Or.inl (Ne.symm ne_b360_dl530))
  have Z_584 : n0 ≤ h555.size := Nat.le_trans Z_531 (Nat.le_of_eq (Wr.size W555).symm)
  have hk_585 := Nat.le_trans hk_532 (Nat.le_of_eq (Wr.size W555).symm)
  have N555 := Fr.snoc X555 N530 g_b360
  obtain ⟨T586, h586, X586, e586, E586, A586, D586, -, st586⟩ := newO X555 hx hZ hown (hw _ (List.mem_of_getElem? (i := 34) rfl)) (hw _ (List.mem_of_getElem? (i := 36) rfl)) (hw _ (List.mem_of_getElem? (i := 37) rfl)) e555 (g := (mkF m 67 #[.val (.int p1), .val (.int p2), .val (.int p3), .val (.int p4), .val (.ref b346), .val (.ref b360), .unset, .unset, .unset, .unset, .unset, .unset, .unset, .unset, .unset] [(.int (3 : Int32)), (.ref b360)])) rfl (hb hby at_67) (by decide) (by decide)
  obtain ⟨b586, g586⟩ : ∃ z, z = h555.size := ⟨_, rfl⟩
  rw [← g586] at A586 D586 st586
  have ne_b360_b586 : b360 ≠ b586 := Nat.ne_of_lt (Nat.lt_of_lt_of_le V_b360_555.lt (Nat.le_of_eq g586.symm))
  have ne_b364_b586 : b364 ≠ b586 := Nat.ne_of_lt (Nat.lt_of_lt_of_le Eq382'557.lt (Nat.le_of_eq g586.symm))
  have ne_dl382_b586 : dl382 ≠ b586 := Nat.ne_of_lt (Nat.lt_of_lt_of_le Edl382'562.lt (Nat.le_of_eq g586.symm))
  have ne_b402_b586 : b402 ≠ b586 := Nat.ne_of_lt (Nat.lt_of_lt_of_le Eq438'566.lt (Nat.le_of_eq g586.symm))
  have ne_dl438_b586 : dl438 ≠ b586 := Nat.ne_of_lt (Nat.lt_of_lt_of_le Edl438'571.lt (Nat.le_of_eq g586.symm))
  have ne_b476_b586 : b476 ≠ b586 := Nat.ne_of_lt (Nat.lt_of_lt_of_le Eq530'575.lt (Nat.le_of_eq g586.symm))
  have ne_dl530_b586 : dl530 ≠ b586 := Nat.ne_of_lt (Nat.lt_of_lt_of_le Edl530'580.lt (Nat.le_of_eq g586.symm))
  have g_b586 : n0 ≤ b586 := Nat.le_trans Z_584 (Nat.le_of_eq g586.symm)
  have Oq358'587 := Oq358'556.ext E586
  have V_b360_555'588 := V_b360_555.ext E586
  have Eq382'589 := Eq382'557.ext E586
  have Fq382_fed'590 := Fq382_fed'558.ext E586
  have Fq382_upstream'591 := Fq382_upstream'559.ext E586
  have Fq382_source'592 := Fq382_source'560.ext E586
  have Fq382_downstream'593 := Fq382_downstream'561.ext E586
  have Edl382'594 := Edl382'562.ext E586
  have Fdl382_modCount'595 := Fdl382_modCount'563.ext E586
  have Fdl382_size'596 := Fdl382_size'564.ext E586
  have Fdl382_elementData'597 := Fdl382_elementData'565.ext E586
  have Eq438'598 := Eq438'566.ext E586
  have Fq438_fed'599 := Fq438_fed'567.ext E586
  have Fq438_upstream'600 := Fq438_upstream'568.ext E586
  have Fq438_source'601 := Fq438_source'569.ext E586
  have Fq438_downstream'602 := Fq438_downstream'570.ext E586
  have Edl438'603 := Edl438'571.ext E586
  have Fdl438_modCount'604 := Fdl438_modCount'572.ext E586
  have Fdl438_size'605 := Fdl438_size'573.ext E586
  have Fdl438_elementData'606 := Fdl438_elementData'574.ext E586
  have Eq530'607 := Eq530'575.ext E586
  have Fq530_fed'608 := Fq530_fed'576.ext E586
  have Fq530_upstream'609 := Fq530_upstream'577.ext E586
  have Fq530_source'610 := Fq530_source'578.ext E586
  have Fq530_downstream'611 := Fq530_downstream'579.ext E586
  have Edl530'612 := Edl530'580.ext E586
  have Fdl530_modCount'613 := Fdl530_modCount'581.ext E586
  have Fdl530_size'614 := Fdl530_size'582.ext E586
  have Fdl530_elementData'615 := Fdl530_elementData'583.ext E586
  have Z_616 : n0 ≤ h586.size := Nat.le_trans Z_584 E586.1
  have hk_617 := Nat.le_trans hk_585 E586.1
  have F_targets_b586 : Fld Z h586 b586 "com/example/arthurs_seat/arthursseat/language/Junction" "targets" "Ljava/util/List;" .null := D586 (Or.inr (hw _ (List.mem_of_getElem? (i := 68) rfl))) (ty := (.object "java/util/List")) (by decide)
  have F_downstream_b586 : Fld Z h586 b586 "com/example/arthurs_seat/arthursseat/language/Junction" "downstream" "Ljava/util/List;" .null := D586 (Or.inr (hw _ (List.mem_of_getElem? (i := 70) rfl))) (ty := (.object "java/util/List")) (by decide)
  have F_name_b586 : Fld Z h586 b586 "com/example/arthurs_seat/arthursseat/language/Junction" "name" "Ljava/lang/String;" .null := D586 (Or.inr (hw _ (List.mem_of_getElem? (i := 72) rfl))) (ty := (.object "java/lang/String")) (by decide)
  have F_location_b586 : Fld Z h586 b586 "com/example/arthurs_seat/arthursseat/language/Junction" "location" "Lcom/example/arthurs_seat/arthursseat/language/SourceLocation;" .null := D586 (Or.inr (hw _ (List.mem_of_getElem? (i := 74) rfl))) (ty := (.object "com/example/arthurs_seat/arthursseat/language/SourceLocation")) (by decide)
  have F_fed_b586 : Fld Z h586 b586 "com/example/arthurs_seat/arthursseat/language/Junction" "fed" "Z" (.int (0 : Int32)) := D586 (Or.inl (hw _ (List.mem_of_getElem? (i := 86) rfl))) (ty := .boolean) (by decide)
  have F_upstream_b586 : Fld Z h586 b586 "com/example/arthurs_seat/arthursseat/language/Junction" "upstream" "Lcom/example/arthurs_seat/arthursseat/language/Junction;" .null := D586 (Or.inl (hw _ (List.mem_of_getElem? (i := 88) rfl))) (ty := (.object "com/example/arthurs_seat/arthursseat/language/Junction")) (by decide)
  have F_source_b586 : Fld Z h586 b586 "com/example/arthurs_seat/arthursseat/language/Junction" "source" "Lcom/example/arthurs_seat/arthursseat/model/ConnectionSource;" .null := D586 (Or.inl (hw _ (List.mem_of_getElem? (i := 125) rfl))) (ty := (.object "com/example/arthurs_seat/arthursseat/model/ConnectionSource")) (by decide)
  have k618 : ∀ t, Steps p.tables e below (T586.setTop (mkF m 71 #[.val (.int p1), .val (.int p2), .val (.int p3), .val (.int p4), .val (.ref b346), .val (.ref b360), .unset, .unset, .unset, .unset, .unset, .unset, .unset, .unset, .unset] [(.ref b586), (.ref b586), (.int (3 : Int32)), (.ref b360)])) t → Steps p.tables e below (s₁.setTop (entryFrame m #[(.int p1), (.int p2), (.int p3), (.int p4)] maxLocals)) t := fun t kt => k499 t (by
      let A0 : Array Slot := #[.val (.int p1), .val (.int p2), .val (.int p3), .val (.int p4), .val (.ref b346), .val (.ref b360), .unset, .unset, .unset, .unset, .unset, .unset, .unset, .unset, .unset]
      show Steps p.tables e below (T476.setTop (mkF m 56 A0 [(.ref b476), (.ref b476), (.int (2 : Int32)), (.ref b360)])) _
      refine st500 _ ?_
      show Steps p.tables e below (T500.setTop (mkF m 58 A0 [(.ref b500), (.ref b476), (.ref b476), (.int (2 : Int32)), (.ref b360)])) _
      refine XS.aload X500.here hx rfl (hb hby at_58) rfl rfl ?_
      show Steps p.tables e below (T500.setTop (mkF m 60 A0 [(.ref b346), (.ref b500), (.ref b476), (.ref b476), (.int (2 : Int32)), (.ref b360)])) _
      refine st530.trans ?_
      show Steps p.tables e below (T530.setTop (mkF m 63 A0 [(.ref b476), (.int (2 : Int32)), (.ref b360)])) _
      refine st555 _ ?_
      show Steps p.tables e below (T555.setTop (mkF m 64 A0 [])) _
      refine XS.aload X555.here hx rfl (hb hby at_64) rfl rfl ?_
      show Steps p.tables e below (T555.setTop (mkF m 66 A0 [(.ref b360)])) _
      refine XS.iconst X555.here hx rfl (hb hby at_66) ?_
      show Steps p.tables e below (T555.setTop (mkF m 67 A0 [(.int (3 : Int32)), (.ref b360)])) _
      refine st586 _ ?_
      show Steps p.tables e below (T586.setTop (mkF m 70 A0 [(.ref b586), (.int (3 : Int32)), (.ref b360)])) _
      refine XS.dup X586.here hx rfl (hb hby at_70) rfl rfl ?_
      exact kt)
  obtain ⟨b619, T619, h619, kk619, X619, e619, E619, hS619, hk619, hZ, hown, st619⟩ := ldcS (s := s) (vm0 := T500.vm) X586 hx hZ hown (hw _ (List.mem_of_getElem? (i := 78) rfl)) wS e586 hS500 hk_617 (g := (mkF m 71 #[.val (.int p1), .val (.int p2), .val (.int p3), .val (.int p4), .val (.ref b346), .val (.ref b360), .unset, .unset, .unset, .unset, .unset, .unset, .unset, .unset, .unset] [(.ref b586), (.ref b586), (.int (3 : Int32)), (.ref b360)])) rfl (hb hby at_71) (n := 4) (by decide) (by decide) (by decide) (by decide)
  have Oq358'620 := Oq358'587.ext E619
  have V_b360_555'621 := V_b360_555'588.ext E619
  have Eq382'622 := Eq382'589.ext E619
  have Fq382_fed'623 := Fq382_fed'590.ext E619
  have Fq382_upstream'624 := Fq382_upstream'591.ext E619
  have Fq382_source'625 := Fq382_source'592.ext E619
  have Fq382_downstream'626 := Fq382_downstream'593.ext E619
  have Edl382'627 := Edl382'594.ext E619
  have Fdl382_modCount'628 := Fdl382_modCount'595.ext E619
  have Fdl382_size'629 := Fdl382_size'596.ext E619
  have Fdl382_elementData'630 := Fdl382_elementData'597.ext E619
  have Eq438'631 := Eq438'598.ext E619
  have Fq438_fed'632 := Fq438_fed'599.ext E619
  have Fq438_upstream'633 := Fq438_upstream'600.ext E619
  have Fq438_source'634 := Fq438_source'601.ext E619
  have Fq438_downstream'635 := Fq438_downstream'602.ext E619
  have Edl438'636 := Edl438'603.ext E619
  have Fdl438_modCount'637 := Fdl438_modCount'604.ext E619
  have Fdl438_size'638 := Fdl438_size'605.ext E619
  have Fdl438_elementData'639 := Fdl438_elementData'606.ext E619
  have Eq530'640 := Eq530'607.ext E619
  have Fq530_fed'641 := Fq530_fed'608.ext E619
  have Fq530_upstream'642 := Fq530_upstream'609.ext E619
  have Fq530_source'643 := Fq530_source'610.ext E619
  have Fq530_downstream'644 := Fq530_downstream'611.ext E619
  have Edl530'645 := Edl530'612.ext E619
  have Fdl530_modCount'646 := Fdl530_modCount'613.ext E619
  have Fdl530_size'647 := Fdl530_size'614.ext E619
  have Fdl530_elementData'648 := Fdl530_elementData'615.ext E619
  have A586'649 := A586.ext E619
  have F_targets_b586'650 := F_targets_b586.ext E619
  have F_downstream_b586'651 := F_downstream_b586.ext E619
  have F_name_b586'652 := F_name_b586.ext E619
  have F_location_b586'653 := F_location_b586.ext E619
  have F_fed_b586'654 := F_fed_b586.ext E619
  have F_upstream_b586'655 := F_upstream_b586.ext E619
  have F_source_b586'656 := F_source_b586.ext E619
  have Z_657 : n0 ≤ h619.size := Nat.le_trans Z_616 E619.1
  obtain ⟨_, _, ⟨T658, L658, k658, n658⟩, -, X658, ⟨Lc658, hQ658, l658, y658, z658⟩, st658⟩ := X619.specialBack hx (y := (⟨"com/example/arthurs_seat/arthursseat/language/Junction", "<init>", "(Ljava/lang/String;Lcom/example/arthurs_seat/arthursseat/language/SourceLocation;)V"⟩ : MethodName)) rfl hown (mvT hZ (hw _ (List.mem_of_getElem? (i := 39) rfl))) (mvT hZ (hw _ (List.mem_of_getElem? (i := 40) rfl))) (mvT hZ (hw _ (List.mem_of_getElem? (i := 41) rfl))) (by decide) (backOf (W := 3) (rm5 l Z a0 hw [] b586 b619 b346 dfl cd h619 n0 Z_657 A586'649 g_b586 F_targets_b586'650 F_downstream_b586'651 F_name_b586'652 F_location_b586'653 F_fed_b586'654 F_upstream_b586'655 F_source_b586'656 Oq358'620 SD DA DS) hZ (hw _ (List.mem_of_getElem? (i := 41) rfl)) (hw _ (List.mem_of_getElem? (i := 37) rfl)) (by decide) (by decide)) (g := (mkF m 75 #[.val (.int p1), .val (.int p2), .val (.int p3), .val (.int p4), .val (.ref b346), .val (.ref b360), .unset, .unset, .unset, .unset, .unset, .unset, .unset, .unset, .unset] [(.ref b346), (.ref b619), (.ref b586), (.ref b586), (.int (3 : Int32)), (.ref b360)])) rfl (by rw [hml]; rfl) (Steps.refl _) (a := b586) (argsL := [(.ref b619), (.ref b346)]) (rest := [(.ref b586), (.int (3 : Int32)), (.ref b360)]) (lenOf pd_9 rfl) rfl (by show 2 * 0 + _ ≤ _; exact Nat.le_of_eq rfl) (hb hby at_75) (fun _ _ => ⟨rfl, e619, (by decide : 24 + 2 ≤ _), (by decide : 113 + 6 ≤ _)⟩)
  dsimp only [Pt.U, Pt.locs, Pt.cells, Pt.slots] at X658 l658 y658 z658 st658 hQ658
  subst l658 y658 z658
  obtain ⟨rfl, N658q, Kq658, Eq658, Fq658_fed, Fq658_upstream, Fq658_source, dl658, sz_dl658, g_dl658, Fq658_downstream, Edl658, Fdl658_modCount, Fdl658_size, Fdl658_elementData⟩ := hQ658
  have N658 := Fr.app N555 N658q
  have ne_b360_dl658 : b360 ≠ dl658 := Nat.ne_of_lt (Nat.lt_of_lt_of_le V_b360_555'621.lt sz_dl658)
  have ne_b364_dl658 : b364 ≠ dl658 := Nat.ne_of_lt (Nat.lt_of_lt_of_le Eq382'622.lt sz_dl658)
  have ne_dl382_dl658 : dl382 ≠ dl658 := Nat.ne_of_lt (Nat.lt_of_lt_of_le Edl382'627.lt sz_dl658)
  have ne_b402_dl658 : b402 ≠ dl658 := Nat.ne_of_lt (Nat.lt_of_lt_of_le Eq438'631.lt sz_dl658)
  have ne_dl438_dl658 : dl438 ≠ dl658 := Nat.ne_of_lt (Nat.lt_of_lt_of_le Edl438'636.lt sz_dl658)
  have ne_b476_dl658 : b476 ≠ dl658 := Nat.ne_of_lt (Nat.lt_of_lt_of_le Eq530'640.lt sz_dl658)
  have ne_dl530_dl658 : dl530 ≠ dl658 := Nat.ne_of_lt (Nat.lt_of_lt_of_le Edl530'645.lt sz_dl658)
  have ne_b586_dl658 : b586 ≠ dl658 := Nat.ne_of_lt (Nat.lt_of_lt_of_le A586'649.lt sz_dl658)
  have Z_659 : n0 ≤ T658.heap.size := Nat.le_trans Z_657 Kq658.1
  have hk_660 := Nat.le_trans hk619 Kq658.1
  have Oq358'661 := Oq358'620.keep Kq658 (allS g_b586 all0)
  have V_b360_555'662 := V_b360_555'621.keep Kq658 (ninS ne_b360_b586 nin0)
  have Eq382'663 := Eq382'622.keep Kq658
  have Fq382_fed'664 := Fq382_fed'623.keep Kq658 (ninS ne_b364_b586 nin0)
  have Fq382_upstream'665 := Fq382_upstream'624.keep Kq658 (ninS ne_b364_b586 nin0)
  have Fq382_source'666 := Fq382_source'625.keep Kq658 (ninS ne_b364_b586 nin0)
  have Fq382_downstream'667 := Fq382_downstream'626.keep Kq658 (ninS ne_b364_b586 nin0)
  have Edl382'668 := Edl382'627.keep Kq658
  have Fdl382_modCount'669 := Fdl382_modCount'628.keep Kq658 (ninS ne_dl382_b586 nin0)
  have Fdl382_size'670 := Fdl382_size'629.keep Kq658 (ninS ne_dl382_b586 nin0)
  have Fdl382_elementData'671 := Fdl382_elementData'630.keep Kq658 (ninS ne_dl382_b586 nin0)
  have Eq438'672 := Eq438'631.keep Kq658
  have Fq438_fed'673 := Fq438_fed'632.keep Kq658 (ninS ne_b402_b586 nin0)
  have Fq438_upstream'674 := Fq438_upstream'633.keep Kq658 (ninS ne_b402_b586 nin0)
  have Fq438_source'675 := Fq438_source'634.keep Kq658 (ninS ne_b402_b586 nin0)
  have Fq438_downstream'676 := Fq438_downstream'635.keep Kq658 (ninS ne_b402_b586 nin0)
  have Edl438'677 := Edl438'636.keep Kq658
  have Fdl438_modCount'678 := Fdl438_modCount'637.keep Kq658 (ninS ne_dl438_b586 nin0)
  have Fdl438_size'679 := Fdl438_size'638.keep Kq658 (ninS ne_dl438_b586 nin0)
  have Fdl438_elementData'680 := Fdl438_elementData'639.keep Kq658 (ninS ne_dl438_b586 nin0)
  have Eq530'681 := Eq530'640.keep Kq658
  have Fq530_fed'682 := Fq530_fed'641.keep Kq658 (ninS ne_b476_b586 nin0)
  have Fq530_upstream'683 := Fq530_upstream'642.keep Kq658 (ninS ne_b476_b586 nin0)
  have Fq530_source'684 := Fq530_source'643.keep Kq658 (ninS ne_b476_b586 nin0)
  have Fq530_downstream'685 := Fq530_downstream'644.keep Kq658 (ninS ne_b476_b586 nin0)
  have Edl530'686 := Edl530'645.keep Kq658
  have Fdl530_modCount'687 := Fdl530_modCount'646.keep Kq658 (ninS ne_dl530_b586 nin0)
  have Fdl530_size'688 := Fdl530_size'647.keep Kq658 (ninS ne_dl530_b586 nin0)
  have Fdl530_elementData'689 := Fdl530_elementData'648.keep Kq658 (ninS ne_dl530_b586 nin0)
  have A586'690 := A586'649.keep Kq658
  obtain ⟨cl691, Ar691, q691, S691, M691, H691, G691⟩ := id V_b360_555'662
  have hin692 : ¬ ((3 : Int32) < 0 ∨ cl691.slots.size ≤ ((3 : Int32)).toNatClampNeg) := inb_of S691 ⟨by decide, by decide⟩
  obtain ⟨T692, h692, X692, e692, W692, st692⟩ := stR X658 hx hZ rfl Ar691 (j := (3 : Int32)) hin692 rfl (Sto.ofV Ar691 q691 O360 (Ins.self Eq658)) (g := (mkF m 78 #[.val (.int p1), .val (.int p2), .val (.int p3), .val (.int p4), .val (.ref b346), .val (.ref b360), .unset, .unset, .unset, .unset, .unset, .unset, .unset, .unset, .unset] [(.ref b586), (.int (3 : Int32)), (.ref b360)])) rfl rfl (hb hby at_78)
  have V_b360_692 : Arv Z h692 b360 kc360 (.object "com/example/arthurs_seat/arthursseat/language/Junction") (4 : Int32) [(.ref b364), (.ref b402), (.ref b476), (.ref b586)] .null := Arv.set Ar691 q691 S691 M691 H691 G691 rfl W692 3 rfl (Nat.le_of_ble_eq_true rfl)
  have Oq358'693 := Oq358'661.wr W692 g_b360
  have Eq382'694 := Eq382'663.wr W692
  have Fq382_fed'695 := Fq382_fed'664.other W692 (Or.inl (Ne.symm ne_b360_b364))
  have Fq382_upstream'696 := Fq382_upstream'665.other W692 (Or.inl (Ne.symm ne_b360_b364))
  have Fq382_source'697 := Fq382_source'666.other W692 (Or.inl (Ne.symm ne_b360_b364))
  have Fq382_downstream'698 := Fq382_downstream'667.other W692 (Or.inl (Ne.symm ne_b360_b364))
  have Edl382'699 := Edl382'668.wr W692
  have Fdl382_modCount'700 := Fdl382_modCount'669.other W692 (Or.inl (Ne.symm ne_b360_dl382))
  have Fdl382_size'701 := Fdl382_size'670.other W692 (Or.inl (Ne.symm ne_b360_dl382))
  have Fdl382_elementData'702 := Fdl382_elementData'671.other W692 (Or.inl (Ne.symm ne_b360_dl382))
  have Eq438'703 := Eq438'672.wr W692
  have Fq438_fed'704 := Fq438_fed'673.other W692 (Or.inl (Ne.symm ne_b360_b402))
  have Fq438_upstream'705 := Fq438_upstream'674.other W692 (Or.inl (Ne.symm ne_b360_b402))
  have Fq438_source'706 := Fq438_source'675.other W692 (Or.inl (Ne.symm ne_b360_b402))
  have Fq438_downstream'707 := Fq438_downstream'676.other W692 (Or.inl (Ne.symm ne_b360_b402))
  have Edl438'708 := Edl438'677.wr W692
  have Fdl438_modCount'709 := Fdl438_modCount'678.other W692 (Or.inl (Ne.symm ne_b360_dl438))
  have Fdl438_size'710 := Fdl438_size'679.other W692 (Or.inl (Ne.symm ne_b360_dl438))
  have Fdl438_elementData'711 := Fdl438_elementData'680.other W692 (Or.inl (Ne.symm ne_b360_dl438))
  have Eq530'712 := Eq530'681.wr W692
  have Fq530_fed'713 := Fq530_fed'682.other W692 (Or.inl (Ne.symm ne_b360_b476))
  have Fq530_upstream'714 := Fq530_upstream'683.other W692 (Or.inl (Ne.symm ne_b360_b476))
  have Fq530_source'715 := Fq530_source'684.other W692 (Or.inl (Ne.symm ne_b360_b476))
  have Fq530_downstream'716 := Fq530_downstream'685.other W692 (Or.inl (Ne.symm ne_b360_b476))
  have Edl530'717 := Edl530'686.wr W692
  have Fdl530_modCount'718 := Fdl530_modCount'687.other W692 (Or.inl (Ne.symm ne_b360_dl530))
  have Fdl530_size'719 := Fdl530_size'688.other W692 (Or.inl (Ne.symm ne_b360_dl530))
  have Fdl530_elementData'720 := Fdl530_elementData'689.other W692 (Or.inl (Ne.symm ne_b360_dl530))
  have Eq658'721 := Eq658.wr W692
  have Fq658_fed'722 := Fq658_fed.other W692 (Or.inl (Ne.symm ne_b360_b586))
  have Fq658_upstream'723 := Fq658_upstream.other W692 (Or.inl (Ne.symm ne_b360_b586))
  have Fq658_source'724 := Fq658_source.other W692 (Or.inl (Ne.symm ne_b360_b586))
  have Fq658_downstream'725 := Fq658_downstream.other W692 (Or.inl (Ne.symm ne_b360_b586))
  have Edl658'726 := Edl658.wr W692
  have Fdl658_modCount'727 := Fdl658_modCount.other W692 (Or.inl (Ne.symm ne_b360_dl658))
  have Fdl658_size'728 := Fdl658_size.other W692 (Or.inl (Ne.symm ne_b360_dl658))
  have Fdl658_elementData'729 := Fdl658_elementData.other W692 (Or.inl (Ne.symm ne_b360_dl658))
  have Z_730 : n0 ≤ h692.size := Nat.le_trans Z_659 (Nat.le_of_eq (Wr.size W692).symm)
  have hk_731 := Nat.le_trans hk_660 (Nat.le_of_eq (Wr.size W692).symm)
  have N692 := Fr.snoc X692 N658 g_b360
  obtain ⟨q1, hq1, c1⟩ := own_q1 p1
  obtain ⟨q2, hq2, c2⟩ := own_q2 p2
  obtain ⟨q3, hq3, c3⟩ := own_q3 p3
  have k732 : ∀ t, Steps p.tables e below (T692.setTop (mkF m 87 #[.val (.int p1), .val (.int p2), .val (.int p3), .val (.int p4), .val (.ref b346), .val (.ref b360), .unset, .unset, .unset, .unset, .unset, .unset, .unset, .unset, .unset] [(.int (((p1 &&& (2147483647 : Int32)) % (2 : Int32)) - (1 : Int32)))])) t → Steps p.tables e below (s₁.setTop (entryFrame m #[(.int p1), (.int p2), (.int p3), (.int p4)] maxLocals)) t := fun t kt => k618 t (by
      let A0 : Array Slot := #[.val (.int p1), .val (.int p2), .val (.int p3), .val (.int p4), .val (.ref b346), .val (.ref b360), .unset, .unset, .unset, .unset, .unset, .unset, .unset, .unset, .unset]
      show Steps p.tables e below (T586.setTop (mkF m 71 A0 [(.ref b586), (.ref b586), (.int (3 : Int32)), (.ref b360)])) _
      refine st619 _ ?_
      show Steps p.tables e below (T619.setTop (mkF m 73 A0 [(.ref b619), (.ref b586), (.ref b586), (.int (3 : Int32)), (.ref b360)])) _
      refine XS.aload X619.here hx rfl (hb hby at_73) rfl rfl ?_
      show Steps p.tables e below (T619.setTop (mkF m 75 A0 [(.ref b346), (.ref b619), (.ref b586), (.ref b586), (.int (3 : Int32)), (.ref b360)])) _
      refine st658.trans ?_
      show Steps p.tables e below (T658.setTop (mkF m 78 A0 [(.ref b586), (.int (3 : Int32)), (.ref b360)])) _
      refine st692 _ ?_
      show Steps p.tables e below (T692.setTop (mkF m 79 A0 [])) _
      refine XS.iloadN X692.here hx rfl (hb hby at_79) rfl ?_
      show Steps p.tables e below (T692.setTop (mkF m 80 A0 [(.int p1)])) _
      refine X692.ldcInt hx hown (mvT hZ (hw _ (List.mem_of_getElem? (i := 79) rfl))) (g := (mkF m 80 A0 [(.int p1)])) rfl (hb hby at_80) _ ?_
      show Steps p.tables e below (T692.setTop (mkF m 82 A0 [(.int (2147483647 : Int32)), (.int p1)])) _
      refine XS.iand X692.here hx rfl (hb hby at_82) rfl ?_
      show Steps p.tables e below (T692.setTop (mkF m 83 A0 [(.int (p1 &&& (2147483647 : Int32)))])) _
      refine XS.iconst X692.here hx rfl (hb hby at_83) ?_
      show Steps p.tables e below (T692.setTop (mkF m 84 A0 [(.int (2 : Int32)), (.int (p1 &&& (2147483647 : Int32)))])) _
      refine iremM (g := (mkF m 84 A0 [(.int (2 : Int32)), (.int (p1 &&& (2147483647 : Int32)))])) X692 hx rfl (hb hby at_84) rfl (by decide) ?_
      show Steps p.tables e below (T692.setTop (mkF m 85 A0 [(.int ((p1 &&& (2147483647 : Int32)) % (2 : Int32)))])) _
      refine XS.iconst X692.here hx rfl (hb hby at_85) ?_
      show Steps p.tables e below (T692.setTop (mkF m 86 A0 [(.int (1 : Int32)), (.int ((p1 &&& (2147483647 : Int32)) % (2 : Int32)))])) _
      refine XS.isub X692.here hx rfl (hb hby at_86) rfl ?_
      exact kt)
  rw [← hq1] at k732
  have k733 : ∀ t, Steps p.tables e below (T692.setTop (mkF m 97 #[.val (.int p1), .val (.int p2), .val (.int p3), .val (.int p4), .val (.ref b346), .val (.ref b360), .val (.int q1), .unset, .unset, .unset, .unset, .unset, .unset, .unset, .unset] [(.int (((p2 &&& (2147483647 : Int32)) % (3 : Int32)) - (1 : Int32)))])) t → Steps p.tables e below (s₁.setTop (entryFrame m #[(.int p1), (.int p2), (.int p3), (.int p4)] maxLocals)) t := fun t kt => k732 t (by
      show Steps p.tables e below (T692.setTop (mkF m 87 #[.val (.int p1), .val (.int p2), .val (.int p3), .val (.int p4), .val (.ref b346), .val (.ref b360), .unset, .unset, .unset, .unset, .unset, .unset, .unset, .unset, .unset] [(.int q1)])) _
      let A0 : Array Slot := #[.val (.int p1), .val (.int p2), .val (.int p3), .val (.int p4), .val (.ref b346), .val (.ref b360), .val (.int q1), .unset, .unset, .unset, .unset, .unset, .unset, .unset, .unset]
      refine XS.istore X692.here hx rfl (hb hby at_87) rfl (l' := A0) rfl ?_
      show Steps p.tables e below (T692.setTop (mkF m 89 A0 [])) _
      refine XS.iloadN X692.here hx rfl (hb hby at_89) rfl ?_
      show Steps p.tables e below (T692.setTop (mkF m 90 A0 [(.int p2)])) _
      refine X692.ldcInt hx hown (mvT hZ (hw _ (List.mem_of_getElem? (i := 79) rfl))) (g := (mkF m 90 A0 [(.int p2)])) rfl (hb hby at_90) _ ?_
      show Steps p.tables e below (T692.setTop (mkF m 92 A0 [(.int (2147483647 : Int32)), (.int p2)])) _
      refine XS.iand X692.here hx rfl (hb hby at_92) rfl ?_
      show Steps p.tables e below (T692.setTop (mkF m 93 A0 [(.int (p2 &&& (2147483647 : Int32)))])) _
      refine XS.iconst X692.here hx rfl (hb hby at_93) ?_
      show Steps p.tables e below (T692.setTop (mkF m 94 A0 [(.int (3 : Int32)), (.int (p2 &&& (2147483647 : Int32)))])) _
      refine iremM (g := (mkF m 94 A0 [(.int (3 : Int32)), (.int (p2 &&& (2147483647 : Int32)))])) X692 hx rfl (hb hby at_94) rfl (by decide) ?_
      show Steps p.tables e below (T692.setTop (mkF m 95 A0 [(.int ((p2 &&& (2147483647 : Int32)) % (3 : Int32)))])) _
      refine XS.iconst X692.here hx rfl (hb hby at_95) ?_
      show Steps p.tables e below (T692.setTop (mkF m 96 A0 [(.int (1 : Int32)), (.int ((p2 &&& (2147483647 : Int32)) % (3 : Int32)))])) _
      refine XS.isub X692.here hx rfl (hb hby at_96) rfl ?_
      exact kt)
  rw [← hq2] at k733
  have k734 : ∀ t, Steps p.tables e below (T692.setTop (mkF m 107 #[.val (.int p1), .val (.int p2), .val (.int p3), .val (.int p4), .val (.ref b346), .val (.ref b360), .val (.int q1), .val (.int q2), .unset, .unset, .unset, .unset, .unset, .unset, .unset] [(.int (((p3 &&& (2147483647 : Int32)) % (4 : Int32)) - (1 : Int32)))])) t → Steps p.tables e below (s₁.setTop (entryFrame m #[(.int p1), (.int p2), (.int p3), (.int p4)] maxLocals)) t := fun t kt => k733 t (by
      show Steps p.tables e below (T692.setTop (mkF m 97 #[.val (.int p1), .val (.int p2), .val (.int p3), .val (.int p4), .val (.ref b346), .val (.ref b360), .val (.int q1), .unset, .unset, .unset, .unset, .unset, .unset, .unset, .unset] [(.int q2)])) _
      let A0 : Array Slot := #[.val (.int p1), .val (.int p2), .val (.int p3), .val (.int p4), .val (.ref b346), .val (.ref b360), .val (.int q1), .val (.int q2), .unset, .unset, .unset, .unset, .unset, .unset, .unset]
      refine XS.istore X692.here hx rfl (hb hby at_97) rfl (l' := A0) rfl ?_
      show Steps p.tables e below (T692.setTop (mkF m 99 A0 [])) _
      refine XS.iloadN X692.here hx rfl (hb hby at_99) rfl ?_
      show Steps p.tables e below (T692.setTop (mkF m 100 A0 [(.int p3)])) _
      refine X692.ldcInt hx hown (mvT hZ (hw _ (List.mem_of_getElem? (i := 79) rfl))) (g := (mkF m 100 A0 [(.int p3)])) rfl (hb hby at_100) _ ?_
      show Steps p.tables e below (T692.setTop (mkF m 102 A0 [(.int (2147483647 : Int32)), (.int p3)])) _
      refine XS.iand X692.here hx rfl (hb hby at_102) rfl ?_
      show Steps p.tables e below (T692.setTop (mkF m 103 A0 [(.int (p3 &&& (2147483647 : Int32)))])) _
      refine XS.iconst X692.here hx rfl (hb hby at_103) ?_
      show Steps p.tables e below (T692.setTop (mkF m 104 A0 [(.int (4 : Int32)), (.int (p3 &&& (2147483647 : Int32)))])) _
      refine iremM (g := (mkF m 104 A0 [(.int (4 : Int32)), (.int (p3 &&& (2147483647 : Int32)))])) X692 hx rfl (hb hby at_104) rfl (by decide) ?_
      show Steps p.tables e below (T692.setTop (mkF m 105 A0 [(.int ((p3 &&& (2147483647 : Int32)) % (4 : Int32)))])) _
      refine XS.iconst X692.here hx rfl (hb hby at_105) ?_
      show Steps p.tables e below (T692.setTop (mkF m 106 A0 [(.int (1 : Int32)), (.int ((p3 &&& (2147483647 : Int32)) % (4 : Int32)))])) _
      refine XS.isub X692.here hx rfl (hb hby at_106) rfl ?_
      exact kt)
  rw [← hq3] at k734
  have k735 : ∀ t, Steps p.tables e below (T692.setTop (mkF m 109 #[.val (.int p1), .val (.int p2), .val (.int p3), .val (.int p4), .val (.ref b346), .val (.ref b360), .val (.int q1), .val (.int q2), .val (.int q3), .unset, .unset, .unset, .unset, .unset, .unset] [])) t → Steps p.tables e below (s₁.setTop (entryFrame m #[(.int p1), (.int p2), (.int p3), (.int p4)] maxLocals)) t := fun t kt => k734 t (by
      show Steps p.tables e below (T692.setTop (mkF m 107 #[.val (.int p1), .val (.int p2), .val (.int p3), .val (.int p4), .val (.ref b346), .val (.ref b360), .val (.int q1), .val (.int q2), .unset, .unset, .unset, .unset, .unset, .unset, .unset] [(.int q3)])) _
      refine XS.istore X692.here hx rfl (hb hby at_107) rfl (l' := #[.val (.int p1), .val (.int p2), .val (.int p3), .val (.int p4), .val (.ref b346), .val (.ref b360), .val (.int q1), .val (.int q2), .val (.int q3), .unset, .unset, .unset, .unset, .unset, .unset]) rfl ?_
      exact kt)
  have W_0 : own_W Z h692 n0 dfl b360 kc360 b364 b402 b476 b586 dl382 dl438 dl530 dl658 .null .null .null 0 := ⟨⟨Eq382'694, Fq382_upstream'696, Fq382_source'697, _, Fq382_fed'695⟩, ⟨Eq438'703, Fq438_upstream'705, Fq438_source'706, _, Fq438_fed'704⟩, ⟨Eq530'712, Fq530_upstream'714, Fq530_source'715, _, Fq530_fed'713⟩, ⟨Eq658'721, Fq658_upstream'723, Fq658_source'724, _, Fq658_fed'722⟩, Fq382_downstream'698, Fq438_downstream'707, Fq530_downstream'716, Fq658_downstream'725, ⟨Edl382'699, _, _, _, Fdl382_modCount'700, Fdl382_size'701, Fdl382_elementData'702, Or.inl ⟨rfl, rfl⟩⟩, ⟨Edl438'708, _, _, _, Fdl438_modCount'709, Fdl438_size'710, Fdl438_elementData'711, Or.inl ⟨rfl, rfl⟩⟩, ⟨Edl530'717, _, _, _, Fdl530_modCount'718, Fdl530_size'719, Fdl530_elementData'720, Or.inl ⟨rfl, rfl⟩⟩, V_b360_692, Oq358'693⟩
  obtain ⟨Tg736, hg736, lg736, Xg736, eg736, Ng736, sg736, Wg736, kg736⟩ : ∃ (T' : State) (h' : Heap) (locs' : List Loc), Stand p l e room_1 (s.setVm T619.vm) m #[(.int p1), (.int p2), (.int p3), (.int p4)] below meth c T' locs' 27 129 ∧ T'.heap = h' ∧ Fr n0 locs' ∧ h692.size ≤ h'.size ∧ own_W Z h' n0 dfl b360 kc360 b364 b402 b476 b586 dl382 dl438 dl530 dl658 (own_u q1 b364 b402 b476) .null .null (0 + 1) ∧ (∀ t, Steps p.tables e below (T'.setTop (mkF m 126 #[.val (.int p1), .val (.int p2), .val (.int p3), .val (.int p4), .val (.ref b346), .val (.ref b360), .val (.int q1), .val (.int q2), .val (.int q3), .unset, .unset, .unset, .unset, .unset, .unset] [])) t → Steps p.tables e below (s₁.setTop (entryFrame m #[(.int p1), (.int p2), (.int p3), (.int p4)] maxLocals)) t) := by
    rcases c1 with rfl | rfl
    · obtain ⟨J0, J1, J2, J3, D0, D1, D2, D3, LL0, LL1, LL2, VJ, OO⟩ := W_0
      have k737 : ∀ t, Steps p.tables e below (T692.setTop (mkF m 126 #[.val (.int p1), .val (.int p2), .val (.int p3), .val (.int p4), .val (.ref b346), .val (.ref b360), .val (.int (-1 : Int32)), .val (.int q2), .val (.int q3), .unset, .unset, .unset, .unset, .unset, .unset] [])) t → Steps p.tables e below (s₁.setTop (entryFrame m #[(.int p1), (.int p2), (.int p3), (.int p4)] maxLocals)) t := fun t kt => k735 t (by
          let A0 : Array Slot := #[.val (.int p1), .val (.int p2), .val (.int p3), .val (.int p4), .val (.ref b346), .val (.ref b360), .val (.int (-1 : Int32)), .val (.int q2), .val (.int q3), .unset, .unset, .unset, .unset, .unset, .unset]
          show Steps p.tables e below (T692.setTop (mkF m 109 A0 [])) _
          refine XS.iload X692.here hx rfl (hb hby at_109) rfl ?_
          show Steps p.tables e below (T692.setTop (mkF m 111 A0 [(.int (-1 : Int32))])) _
          refine XS.ifYes X692.here hx rfl (pc0 := 111) (pc' := 126) rfl (hb hby at_111) rfl ((if0 _ _).trans (tlt (by decide : (-1 : Int32) < (0 : Int32))).1) (by decide) (by decide) ?_
          exact kt)
      refine ⟨T692, h692, _, X692.more (by decide) (by decide), e692, N692, Nat.le_refl _, ⟨J0, J1, J2, J3, D0, D1, D2, D3, LL0.mono (by omega), LL1.mono (by omega), LL2.mono (by omega), VJ, OO⟩, k737⟩
    · obtain ⟨J0, J1, J2, J3, D0, D1, D2, D3, LL0, LL1, LL2, VJ, OO⟩ := W_0
      obtain ⟨cl738, Ar738, q738, S738, M738, H738, G738⟩ := id VJ
      have hin739 : ¬ ((1 : Int32) < 0 ∨ cl738.slots.size ≤ ((1 : Int32)).toNatClampNeg) := inb_of S738 ⟨by decide, by decide⟩
      have hat739 : cl738.slots[((1 : Int32)).toNatClampNeg]? = some (.ref b402) := H738.at hin739 rfl
      obtain ⟨cl740, Ar740, q740, S740, M740, H740, G740⟩ := id VJ
      have hin741 : ¬ ((0 : Int32) < 0 ∨ cl740.slots.size ≤ ((0 : Int32)).toNatClampNeg) := inb_of S740 ⟨by decide, by decide⟩
      have hat741 : cl740.slots[((0 : Int32)).toNatClampNeg]? = some (.ref b364) := H740.at hin741 rfl
      obtain ⟨cq742, kq742, q742a, q742b, q742c⟩ := isOf hZ e692 J1.1
      obtain ⟨_, _, ⟨T742, L742, k742, n742⟩, -, X742, ⟨Lc742, hQ742, l742, y742, z742⟩, st742⟩ := X692.virtualBack hx (y := (⟨"com/example/arthurs_seat/arthursseat/language/Junction", "feed", "(Lcom/example/arthurs_seat/arthursseat/language/Junction;)V"⟩ : MethodName)) (z := (⟨"com/example/arthurs_seat/arthursseat/language/Junction", "feed", "(Lcom/example/arthurs_seat/arthursseat/language/Junction;)V"⟩ : MethodName)) hown (mvT hZ (hw _ (List.mem_of_getElem? (i := 80) rfl))) (mvT hZ (hw _ (List.mem_of_getElem? (i := 81) rfl))) (notFace_of_selects (args := #[]) (mvT hZ (hw _ (List.mem_of_getElem? (i := 83) rfl)))) (mvT hZ (hw _ (List.mem_of_getElem? (i := 83) rfl))) (mvT hZ (hw _ (List.mem_of_getElem? (i := 82) rfl))) (by decide) (backOf (W := 0) (rm9 l Z a0 hw [] b402 b364 dl382 dl438 dfl cd _ _ 0 h692 n0 Z_730 J1 J0 D1 D0 LL0 ne_b364_b402 g_b402 g_dl382 (by decide) (by decide) OO SD DA DS) hZ (hw _ (List.mem_of_getElem? (i := 84) rfl)) (hw _ (List.mem_of_getElem? (i := 37) rfl)) (by decide) (by decide)) q742a q742c (g := (mkF m 123 #[.val (.int p1), .val (.int p2), .val (.int p3), .val (.int p4), .val (.ref b346), .val (.ref b360), .val (.int (0 : Int32)), .val (.int q2), .val (.int q3), .unset, .unset, .unset, .unset, .unset, .unset] [(.ref b364), (.ref b402)])) rfl (by rw [hml]; rfl) (Steps.refl _) (argsL := [(.ref b364)]) (rest := []) (lenOf pd_10 rfl) rfl (by show 2 * 0 + _ ≤ _; exact Nat.le_of_eq rfl) (hb hby at_123) (fun _ _ => ⟨rfl, e692, (by decide : 26 + 1 ≤ _), (by decide : 119 + 10 ≤ _)⟩)
      dsimp only [Pt.U, Pt.locs, Pt.cells, Pt.slots] at X742 l742 y742 z742 st742 hQ742
      subst l742 y742 z742
      obtain ⟨rfl, N742q, ⟨ed742, O_ed742, Kw742⟩, JN742, DN742, LN742, ON742⟩ := hQ742
      have N742 := Fr.app N692 N742q
      have k743 : ∀ t, Steps p.tables e below (T742.setTop (mkF m 126 #[.val (.int p1), .val (.int p2), .val (.int p3), .val (.int p4), .val (.ref b346), .val (.ref b360), .val (.int (0 : Int32)), .val (.int q2), .val (.int q3), .unset, .unset, .unset, .unset, .unset, .unset] [])) t → Steps p.tables e below (s₁.setTop (entryFrame m #[(.int p1), (.int p2), (.int p3), (.int p4)] maxLocals)) t := fun t kt => k735 t (by
          let A0 : Array Slot := #[.val (.int p1), .val (.int p2), .val (.int p3), .val (.int p4), .val (.ref b346), .val (.ref b360), .val (.int (0 : Int32)), .val (.int q2), .val (.int q3), .unset, .unset, .unset, .unset, .unset, .unset]
          show Steps p.tables e below (T692.setTop (mkF m 109 A0 [])) _
          refine XS.iload X692.here hx rfl (hb hby at_109) rfl ?_
          show Steps p.tables e below (T692.setTop (mkF m 111 A0 [(.int (0 : Int32))])) _
          refine XS.ifNo X692.here hx rfl (hb hby at_111) rfl ((if0 _ _).trans (flt (by decide : ¬ ((0 : Int32) < (0 : Int32)))).1) ?_
          show Steps p.tables e below (T692.setTop (mkF m 114 A0 [])) _
          refine XS.aload X692.here hx rfl (hb hby at_114) rfl rfl ?_
          show Steps p.tables e below (T692.setTop (mkF m 116 A0 [(.ref b360)])) _
          refine XS.iconst X692.here hx rfl (hb hby at_116) ?_
          show Steps p.tables e below (T692.setTop (mkF m 117 A0 [(.int (1 : Int32)), (.ref b360)])) _
          refine X692.aaload hx (j := (1 : Int32)) (v := (.ref b402)) (by rw [e692]; exact Ar738.1) (State.isArrayOf_alike hZ.alike Ar738.2.1) rfl Ar738.2.2 hin739 hat739 (g := (mkF m 117 A0 [(.int (1 : Int32)), (.ref b360)])) rfl rfl (hb hby at_117) _ ?_
          show Steps p.tables e below (T692.setTop (mkF m 118 A0 [(.ref b402)])) _
          refine XS.aload X692.here hx rfl (hb hby at_118) rfl rfl ?_
          show Steps p.tables e below (T692.setTop (mkF m 120 A0 [(.ref b360), (.ref b402)])) _
          refine XS.iload X692.here hx rfl (hb hby at_120) rfl ?_
          show Steps p.tables e below (T692.setTop (mkF m 122 A0 [(.int (0 : Int32)), (.ref b360), (.ref b402)])) _
          refine X692.aaload hx (j := (0 : Int32)) (v := (.ref b364)) (by rw [e692]; exact Ar740.1) (State.isArrayOf_alike hZ.alike Ar740.2.1) rfl Ar740.2.2 hin741 hat741 (g := (mkF m 122 A0 [(.int (0 : Int32)), (.ref b360), (.ref b402)])) rfl rfl (hb hby at_122) _ ?_
          show Steps p.tables e below (T692.setTop (mkF m 123 A0 [(.ref b364), (.ref b402)])) _
          refine st742.trans ?_
          exact kt)
      obtain ⟨ce742, Ae742⟩ := id O_ed742
      obtain ⟨cj742, Aj742, -⟩ := id VJ
      obtain ⟨cj742', Aj742', -⟩ := own_arrKeep Aj742 Kw742
      refine ⟨T742, _, _, X742, rfl, N742, Kw742.1, ⟨J0.keep Kw742 (ninS ne_b364_b402 (ninS ne_b364_dl382 (ninS (own_neo (J0.1.keep Kw742) (hw _ (List.mem_of_getElem? (i := 36) rfl)) O_ed742) nin0))), JN742, J2.keep Kw742 (ninS (Ne.symm ne_b402_b476) (ninS (Ne.symm ne_dl382_b476) (ninS (own_neo (J2.1.keep Kw742) (hw _ (List.mem_of_getElem? (i := 36) rfl)) O_ed742) nin0))), J3.keep Kw742 (ninS (Ne.symm ne_b402_b586) (ninS (Ne.symm ne_dl382_b586) (ninS (own_neo (J3.1.keep Kw742) (hw _ (List.mem_of_getElem? (i := 36) rfl)) O_ed742) nin0))), D0.keep Kw742 (ninS ne_b364_b402 (ninS ne_b364_dl382 (ninS (own_neo (J0.1.keep Kw742) (hw _ (List.mem_of_getElem? (i := 36) rfl)) O_ed742) nin0))), DN742, D2.keep Kw742 (ninS (Ne.symm ne_b402_b476) (ninS (Ne.symm ne_dl382_b476) (ninS (own_neo (J2.1.keep Kw742) (hw _ (List.mem_of_getElem? (i := 36) rfl)) O_ed742) nin0))), D3.keep Kw742 (ninS (Ne.symm ne_b402_b586) (ninS (Ne.symm ne_dl382_b586) (ninS (own_neo (J3.1.keep Kw742) (hw _ (List.mem_of_getElem? (i := 36) rfl)) O_ed742) nin0))), LN742, (LL1.keep Kw742 (ninS (Ne.symm ne_b402_dl438) (ninS (Ne.symm ne_dl382_dl438) (ninS (own_neo (LL1.1.keep Kw742) (hw _ (List.mem_of_getElem? (i := 44) rfl)) O_ed742) nin0)))).mono (by omega), (LL2.keep Kw742 (ninS (Ne.symm ne_b402_dl530) (ninS (Ne.symm ne_dl382_dl530) (ninS (own_neo (LL2.1.keep Kw742) (hw _ (List.mem_of_getElem? (i := 44) rfl)) O_ed742) nin0)))).mono (by omega), VJ.keep Kw742 (ninS ne_b360_b402 (ninS ne_b360_dl382 (ninS (own_ne2 Aj742' Ae742 (by decide)) nin0))), ON742⟩, k743⟩
  have Z_744 : n0 ≤ hg736.size := Nat.le_trans Z_730 sg736
  have hk_745 := Nat.le_trans hk_731 sg736
  obtain ⟨Tg746, hg746, lg746, Xg746, eg746, Ng746, sg746, Wg746, kg746⟩ : ∃ (T' : State) (h' : Heap) (locs' : List Loc), Stand p l e room_1 (s.setVm T619.vm) m #[(.int p1), (.int p2), (.int p3), (.int p4)] below meth c T' locs' 28 139 ∧ T'.heap = h' ∧ Fr n0 locs' ∧ hg736.size ≤ h'.size ∧ own_W Z h' n0 dfl b360 kc360 b364 b402 b476 b586 dl382 dl438 dl530 dl658 (own_u q1 b364 b402 b476) (own_u q2 b364 b402 b476) .null ((0 + 1) + 1) ∧ (∀ t, Steps p.tables e below (T'.setTop (mkF m 143 #[.val (.int p1), .val (.int p2), .val (.int p3), .val (.int p4), .val (.ref b346), .val (.ref b360), .val (.int q1), .val (.int q2), .val (.int q3), .unset, .unset, .unset, .unset, .unset, .unset] [])) t → Steps p.tables e below (s₁.setTop (entryFrame m #[(.int p1), (.int p2), (.int p3), (.int p4)] maxLocals)) t) := by
    rcases c2 with rfl | rfl | rfl
    · obtain ⟨J0, J1, J2, J3, D0, D1, D2, D3, LL0, LL1, LL2, VJ, OO⟩ := Wg736
      have k747 : ∀ t, Steps p.tables e below (Tg736.setTop (mkF m 143 #[.val (.int p1), .val (.int p2), .val (.int p3), .val (.int p4), .val (.ref b346), .val (.ref b360), .val (.int q1), .val (.int (-1 : Int32)), .val (.int q3), .unset, .unset, .unset, .unset, .unset, .unset] [])) t → Steps p.tables e below (s₁.setTop (entryFrame m #[(.int p1), (.int p2), (.int p3), (.int p4)] maxLocals)) t := fun t kt => kg736 t (by
          let A0 : Array Slot := #[.val (.int p1), .val (.int p2), .val (.int p3), .val (.int p4), .val (.ref b346), .val (.ref b360), .val (.int q1), .val (.int (-1 : Int32)), .val (.int q3), .unset, .unset, .unset, .unset, .unset, .unset]
          show Steps p.tables e below (Tg736.setTop (mkF m 126 A0 [])) _
          refine XS.iload Xg736.here hx rfl (hb hby at_126) rfl ?_
          show Steps p.tables e below (Tg736.setTop (mkF m 128 A0 [(.int (-1 : Int32))])) _
          refine XS.ifYes Xg736.here hx rfl (pc0 := 128) (pc' := 143) rfl (hb hby at_128) rfl ((if0 _ _).trans (tlt (by decide : (-1 : Int32) < (0 : Int32))).1) (by decide) (by decide) ?_
          exact kt)
      refine ⟨Tg736, hg736, _, Xg736.more (by decide) (by decide), eg736, Ng736, Nat.le_refl _, ⟨J0, J1, J2, J3, D0, D1, D2, D3, LL0.mono (by omega), LL1.mono (by omega), LL2.mono (by omega), VJ, OO⟩, k747⟩
    · obtain ⟨J0, J1, J2, J3, D0, D1, D2, D3, LL0, LL1, LL2, VJ, OO⟩ := Wg736
      obtain ⟨cl748, Ar748, q748, S748, M748, H748, G748⟩ := id VJ
      have hin749 : ¬ ((2 : Int32) < 0 ∨ cl748.slots.size ≤ ((2 : Int32)).toNatClampNeg) := inb_of S748 ⟨by decide, by decide⟩
      have hat749 : cl748.slots[((2 : Int32)).toNatClampNeg]? = some (.ref b476) := H748.at hin749 rfl
      obtain ⟨cl750, Ar750, q750, S750, M750, H750, G750⟩ := id VJ
      have hin751 : ¬ ((0 : Int32) < 0 ∨ cl750.slots.size ≤ ((0 : Int32)).toNatClampNeg) := inb_of S750 ⟨by decide, by decide⟩
      have hat751 : cl750.slots[((0 : Int32)).toNatClampNeg]? = some (.ref b364) := H750.at hin751 rfl
      obtain ⟨cq752, kq752, q752a, q752b, q752c⟩ := isOf hZ eg736 J2.1
      obtain ⟨_, _, ⟨T752, L752, k752, n752⟩, -, X752, ⟨Lc752, hQ752, l752, y752, z752⟩, st752⟩ := Xg736.virtualBack hx (y := (⟨"com/example/arthurs_seat/arthursseat/language/Junction", "feed", "(Lcom/example/arthurs_seat/arthursseat/language/Junction;)V"⟩ : MethodName)) (z := (⟨"com/example/arthurs_seat/arthursseat/language/Junction", "feed", "(Lcom/example/arthurs_seat/arthursseat/language/Junction;)V"⟩ : MethodName)) hown (mvT hZ (hw _ (List.mem_of_getElem? (i := 80) rfl))) (mvT hZ (hw _ (List.mem_of_getElem? (i := 81) rfl))) (notFace_of_selects (args := #[]) (mvT hZ (hw _ (List.mem_of_getElem? (i := 83) rfl)))) (mvT hZ (hw _ (List.mem_of_getElem? (i := 83) rfl))) (mvT hZ (hw _ (List.mem_of_getElem? (i := 82) rfl))) (by decide) (backOf (W := 0) (rm9 l Z a0 hw [] b476 b364 dl382 dl530 dfl cd _ _ (0 + 1) hg736 n0 Z_744 J2 J0 D2 D0 LL0 ne_b364_b476 g_b476 g_dl382 (by decide) (by decide) OO SD DA DS) hZ (hw _ (List.mem_of_getElem? (i := 84) rfl)) (hw _ (List.mem_of_getElem? (i := 37) rfl)) (by decide) (by decide)) q752a q752c (g := (mkF m 140 #[.val (.int p1), .val (.int p2), .val (.int p3), .val (.int p4), .val (.ref b346), .val (.ref b360), .val (.int q1), .val (.int (0 : Int32)), .val (.int q3), .unset, .unset, .unset, .unset, .unset, .unset] [(.ref b364), (.ref b476)])) rfl (by rw [hml]; rfl) (Steps.refl _) (argsL := [(.ref b364)]) (rest := []) (lenOf pd_10 rfl) rfl (by show 2 * 0 + _ ≤ _; exact Nat.le_of_eq rfl) (hb hby at_140) (fun _ _ => ⟨rfl, eg736, (by decide : 27 + 1 ≤ _), (by decide : 129 + 10 ≤ _)⟩)
      dsimp only [Pt.U, Pt.locs, Pt.cells, Pt.slots] at X752 l752 y752 z752 st752 hQ752
      subst l752 y752 z752
      obtain ⟨rfl, N752q, ⟨ed752, O_ed752, Kw752⟩, JN752, DN752, LN752, ON752⟩ := hQ752
      have N752 := Fr.app Ng736 N752q
      have k753 : ∀ t, Steps p.tables e below (T752.setTop (mkF m 143 #[.val (.int p1), .val (.int p2), .val (.int p3), .val (.int p4), .val (.ref b346), .val (.ref b360), .val (.int q1), .val (.int (0 : Int32)), .val (.int q3), .unset, .unset, .unset, .unset, .unset, .unset] [])) t → Steps p.tables e below (s₁.setTop (entryFrame m #[(.int p1), (.int p2), (.int p3), (.int p4)] maxLocals)) t := fun t kt => kg736 t (by
          let A0 : Array Slot := #[.val (.int p1), .val (.int p2), .val (.int p3), .val (.int p4), .val (.ref b346), .val (.ref b360), .val (.int q1), .val (.int (0 : Int32)), .val (.int q3), .unset, .unset, .unset, .unset, .unset, .unset]
          show Steps p.tables e below (Tg736.setTop (mkF m 126 A0 [])) _
          refine XS.iload Xg736.here hx rfl (hb hby at_126) rfl ?_
          show Steps p.tables e below (Tg736.setTop (mkF m 128 A0 [(.int (0 : Int32))])) _
          refine XS.ifNo Xg736.here hx rfl (hb hby at_128) rfl ((if0 _ _).trans (flt (by decide : ¬ ((0 : Int32) < (0 : Int32)))).1) ?_
          show Steps p.tables e below (Tg736.setTop (mkF m 131 A0 [])) _
          refine XS.aload Xg736.here hx rfl (hb hby at_131) rfl rfl ?_
          show Steps p.tables e below (Tg736.setTop (mkF m 133 A0 [(.ref b360)])) _
          refine XS.iconst Xg736.here hx rfl (hb hby at_133) ?_
          show Steps p.tables e below (Tg736.setTop (mkF m 134 A0 [(.int (2 : Int32)), (.ref b360)])) _
          refine Xg736.aaload hx (j := (2 : Int32)) (v := (.ref b476)) (by rw [eg736]; exact Ar748.1) (State.isArrayOf_alike hZ.alike Ar748.2.1) rfl Ar748.2.2 hin749 hat749 (g := (mkF m 134 A0 [(.int (2 : Int32)), (.ref b360)])) rfl rfl (hb hby at_134) _ ?_
          show Steps p.tables e below (Tg736.setTop (mkF m 135 A0 [(.ref b476)])) _
          refine XS.aload Xg736.here hx rfl (hb hby at_135) rfl rfl ?_
          show Steps p.tables e below (Tg736.setTop (mkF m 137 A0 [(.ref b360), (.ref b476)])) _
          refine XS.iload Xg736.here hx rfl (hb hby at_137) rfl ?_
          show Steps p.tables e below (Tg736.setTop (mkF m 139 A0 [(.int (0 : Int32)), (.ref b360), (.ref b476)])) _
          refine Xg736.aaload hx (j := (0 : Int32)) (v := (.ref b364)) (by rw [eg736]; exact Ar750.1) (State.isArrayOf_alike hZ.alike Ar750.2.1) rfl Ar750.2.2 hin751 hat751 (g := (mkF m 139 A0 [(.int (0 : Int32)), (.ref b360), (.ref b476)])) rfl rfl (hb hby at_139) _ ?_
          show Steps p.tables e below (Tg736.setTop (mkF m 140 A0 [(.ref b364), (.ref b476)])) _
          refine st752.trans ?_
          exact kt)
      obtain ⟨ce752, Ae752⟩ := id O_ed752
      obtain ⟨cj752, Aj752, -⟩ := id VJ
      obtain ⟨cj752', Aj752', -⟩ := own_arrKeep Aj752 Kw752
      refine ⟨T752, _, _, X752, rfl, N752, Kw752.1, ⟨J0.keep Kw752 (ninS ne_b364_b476 (ninS ne_b364_dl382 (ninS (own_neo (J0.1.keep Kw752) (hw _ (List.mem_of_getElem? (i := 36) rfl)) O_ed752) nin0))), J1.keep Kw752 (ninS ne_b402_b476 (ninS (Ne.symm ne_dl382_b402) (ninS (own_neo (J1.1.keep Kw752) (hw _ (List.mem_of_getElem? (i := 36) rfl)) O_ed752) nin0))), JN752, J3.keep Kw752 (ninS (Ne.symm ne_b476_b586) (ninS (Ne.symm ne_dl382_b586) (ninS (own_neo (J3.1.keep Kw752) (hw _ (List.mem_of_getElem? (i := 36) rfl)) O_ed752) nin0))), D0.keep Kw752 (ninS ne_b364_b476 (ninS ne_b364_dl382 (ninS (own_neo (J0.1.keep Kw752) (hw _ (List.mem_of_getElem? (i := 36) rfl)) O_ed752) nin0))), D1.keep Kw752 (ninS ne_b402_b476 (ninS (Ne.symm ne_dl382_b402) (ninS (own_neo (J1.1.keep Kw752) (hw _ (List.mem_of_getElem? (i := 36) rfl)) O_ed752) nin0))), DN752, D3.keep Kw752 (ninS (Ne.symm ne_b476_b586) (ninS (Ne.symm ne_dl382_b586) (ninS (own_neo (J3.1.keep Kw752) (hw _ (List.mem_of_getElem? (i := 36) rfl)) O_ed752) nin0))), LN752, (LL1.keep Kw752 (ninS ne_dl438_b476 (ninS (Ne.symm ne_dl382_dl438) (ninS (own_neo (LL1.1.keep Kw752) (hw _ (List.mem_of_getElem? (i := 44) rfl)) O_ed752) nin0)))).mono (by omega), (LL2.keep Kw752 (ninS (Ne.symm ne_b476_dl530) (ninS (Ne.symm ne_dl382_dl530) (ninS (own_neo (LL2.1.keep Kw752) (hw _ (List.mem_of_getElem? (i := 44) rfl)) O_ed752) nin0)))).mono (by omega), VJ.keep Kw752 (ninS ne_b360_b476 (ninS ne_b360_dl382 (ninS (own_ne2 Aj752' Ae752 (by decide)) nin0))), ON752⟩, k753⟩
    · obtain ⟨J0, J1, J2, J3, D0, D1, D2, D3, LL0, LL1, LL2, VJ, OO⟩ := Wg736
      obtain ⟨cl754, Ar754, q754, S754, M754, H754, G754⟩ := id VJ
      have hin755 : ¬ ((2 : Int32) < 0 ∨ cl754.slots.size ≤ ((2 : Int32)).toNatClampNeg) := inb_of S754 ⟨by decide, by decide⟩
      have hat755 : cl754.slots[((2 : Int32)).toNatClampNeg]? = some (.ref b476) := H754.at hin755 rfl
      obtain ⟨cl756, Ar756, q756, S756, M756, H756, G756⟩ := id VJ
      have hin757 : ¬ ((1 : Int32) < 0 ∨ cl756.slots.size ≤ ((1 : Int32)).toNatClampNeg) := inb_of S756 ⟨by decide, by decide⟩
      have hat757 : cl756.slots[((1 : Int32)).toNatClampNeg]? = some (.ref b402) := H756.at hin757 rfl
      obtain ⟨cq758, kq758, q758a, q758b, q758c⟩ := isOf hZ eg736 J2.1
      obtain ⟨_, _, ⟨T758, L758, k758, n758⟩, -, X758, ⟨Lc758, hQ758, l758, y758, z758⟩, st758⟩ := Xg736.virtualBack hx (y := (⟨"com/example/arthurs_seat/arthursseat/language/Junction", "feed", "(Lcom/example/arthurs_seat/arthursseat/language/Junction;)V"⟩ : MethodName)) (z := (⟨"com/example/arthurs_seat/arthursseat/language/Junction", "feed", "(Lcom/example/arthurs_seat/arthursseat/language/Junction;)V"⟩ : MethodName)) hown (mvT hZ (hw _ (List.mem_of_getElem? (i := 80) rfl))) (mvT hZ (hw _ (List.mem_of_getElem? (i := 81) rfl))) (notFace_of_selects (args := #[]) (mvT hZ (hw _ (List.mem_of_getElem? (i := 83) rfl)))) (mvT hZ (hw _ (List.mem_of_getElem? (i := 83) rfl))) (mvT hZ (hw _ (List.mem_of_getElem? (i := 82) rfl))) (by decide) (backOf (W := 0) (rm9 l Z a0 hw [] b476 b402 dl438 dl530 dfl cd _ _ (0 + 1) hg736 n0 Z_744 J2 J1 D2 D1 LL1 ne_b402_b476 g_b476 g_dl438 (by decide) (by decide) OO SD DA DS) hZ (hw _ (List.mem_of_getElem? (i := 84) rfl)) (hw _ (List.mem_of_getElem? (i := 37) rfl)) (by decide) (by decide)) q758a q758c (g := (mkF m 140 #[.val (.int p1), .val (.int p2), .val (.int p3), .val (.int p4), .val (.ref b346), .val (.ref b360), .val (.int q1), .val (.int (1 : Int32)), .val (.int q3), .unset, .unset, .unset, .unset, .unset, .unset] [(.ref b402), (.ref b476)])) rfl (by rw [hml]; rfl) (Steps.refl _) (argsL := [(.ref b402)]) (rest := []) (lenOf pd_10 rfl) rfl (by show 2 * 0 + _ ≤ _; exact Nat.le_of_eq rfl) (hb hby at_140) (fun _ _ => ⟨rfl, eg736, (by decide : 27 + 1 ≤ _), (by decide : 129 + 10 ≤ _)⟩)
      dsimp only [Pt.U, Pt.locs, Pt.cells, Pt.slots] at X758 l758 y758 z758 st758 hQ758
      subst l758 y758 z758
      obtain ⟨rfl, N758q, ⟨ed758, O_ed758, Kw758⟩, JN758, DN758, LN758, ON758⟩ := hQ758
      have N758 := Fr.app Ng736 N758q
      have k759 : ∀ t, Steps p.tables e below (T758.setTop (mkF m 143 #[.val (.int p1), .val (.int p2), .val (.int p3), .val (.int p4), .val (.ref b346), .val (.ref b360), .val (.int q1), .val (.int (1 : Int32)), .val (.int q3), .unset, .unset, .unset, .unset, .unset, .unset] [])) t → Steps p.tables e below (s₁.setTop (entryFrame m #[(.int p1), (.int p2), (.int p3), (.int p4)] maxLocals)) t := fun t kt => kg736 t (by
          let A0 : Array Slot := #[.val (.int p1), .val (.int p2), .val (.int p3), .val (.int p4), .val (.ref b346), .val (.ref b360), .val (.int q1), .val (.int (1 : Int32)), .val (.int q3), .unset, .unset, .unset, .unset, .unset, .unset]
          show Steps p.tables e below (Tg736.setTop (mkF m 126 A0 [])) _
          refine XS.iload Xg736.here hx rfl (hb hby at_126) rfl ?_
          show Steps p.tables e below (Tg736.setTop (mkF m 128 A0 [(.int (1 : Int32))])) _
          refine XS.ifNo Xg736.here hx rfl (hb hby at_128) rfl ((if0 _ _).trans (flt (by decide : ¬ ((1 : Int32) < (0 : Int32)))).1) ?_
          show Steps p.tables e below (Tg736.setTop (mkF m 131 A0 [])) _
          refine XS.aload Xg736.here hx rfl (hb hby at_131) rfl rfl ?_
          show Steps p.tables e below (Tg736.setTop (mkF m 133 A0 [(.ref b360)])) _
          refine XS.iconst Xg736.here hx rfl (hb hby at_133) ?_
          show Steps p.tables e below (Tg736.setTop (mkF m 134 A0 [(.int (2 : Int32)), (.ref b360)])) _
          refine Xg736.aaload hx (j := (2 : Int32)) (v := (.ref b476)) (by rw [eg736]; exact Ar754.1) (State.isArrayOf_alike hZ.alike Ar754.2.1) rfl Ar754.2.2 hin755 hat755 (g := (mkF m 134 A0 [(.int (2 : Int32)), (.ref b360)])) rfl rfl (hb hby at_134) _ ?_
          show Steps p.tables e below (Tg736.setTop (mkF m 135 A0 [(.ref b476)])) _
          refine XS.aload Xg736.here hx rfl (hb hby at_135) rfl rfl ?_
          show Steps p.tables e below (Tg736.setTop (mkF m 137 A0 [(.ref b360), (.ref b476)])) _
          refine XS.iload Xg736.here hx rfl (hb hby at_137) rfl ?_
          show Steps p.tables e below (Tg736.setTop (mkF m 139 A0 [(.int (1 : Int32)), (.ref b360), (.ref b476)])) _
          refine Xg736.aaload hx (j := (1 : Int32)) (v := (.ref b402)) (by rw [eg736]; exact Ar756.1) (State.isArrayOf_alike hZ.alike Ar756.2.1) rfl Ar756.2.2 hin757 hat757 (g := (mkF m 139 A0 [(.int (1 : Int32)), (.ref b360), (.ref b476)])) rfl rfl (hb hby at_139) _ ?_
          show Steps p.tables e below (Tg736.setTop (mkF m 140 A0 [(.ref b402), (.ref b476)])) _
          refine st758.trans ?_
          exact kt)
      obtain ⟨ce758, Ae758⟩ := id O_ed758
      obtain ⟨cj758, Aj758, -⟩ := id VJ
      obtain ⟨cj758', Aj758', -⟩ := own_arrKeep Aj758 Kw758
      refine ⟨T758, _, _, X758, rfl, N758, Kw758.1, ⟨J0.keep Kw758 (ninS ne_b364_b476 (ninS ne_b364_dl438 (ninS (own_neo (J0.1.keep Kw758) (hw _ (List.mem_of_getElem? (i := 36) rfl)) O_ed758) nin0))), J1.keep Kw758 (ninS ne_b402_b476 (ninS ne_b402_dl438 (ninS (own_neo (J1.1.keep Kw758) (hw _ (List.mem_of_getElem? (i := 36) rfl)) O_ed758) nin0))), JN758, J3.keep Kw758 (ninS (Ne.symm ne_b476_b586) (ninS (Ne.symm ne_dl438_b586) (ninS (own_neo (J3.1.keep Kw758) (hw _ (List.mem_of_getElem? (i := 36) rfl)) O_ed758) nin0))), D0.keep Kw758 (ninS ne_b364_b476 (ninS ne_b364_dl438 (ninS (own_neo (J0.1.keep Kw758) (hw _ (List.mem_of_getElem? (i := 36) rfl)) O_ed758) nin0))), D1.keep Kw758 (ninS ne_b402_b476 (ninS ne_b402_dl438 (ninS (own_neo (J1.1.keep Kw758) (hw _ (List.mem_of_getElem? (i := 36) rfl)) O_ed758) nin0))), DN758, D3.keep Kw758 (ninS (Ne.symm ne_b476_b586) (ninS (Ne.symm ne_dl438_b586) (ninS (own_neo (J3.1.keep Kw758) (hw _ (List.mem_of_getElem? (i := 36) rfl)) O_ed758) nin0))), (LL0.keep Kw758 (ninS ne_dl382_b476 (ninS ne_dl382_dl438 (ninS (own_neo (LL0.1.keep Kw758) (hw _ (List.mem_of_getElem? (i := 44) rfl)) O_ed758) nin0)))).mono (by omega), LN758, (LL2.keep Kw758 (ninS (Ne.symm ne_b476_dl530) (ninS (Ne.symm ne_dl438_dl530) (ninS (own_neo (LL2.1.keep Kw758) (hw _ (List.mem_of_getElem? (i := 44) rfl)) O_ed758) nin0)))).mono (by omega), VJ.keep Kw758 (ninS ne_b360_b476 (ninS ne_b360_dl438 (ninS (own_ne2 Aj758' Ae758 (by decide)) nin0))), ON758⟩, k759⟩
  have Z_760 : n0 ≤ hg746.size := Nat.le_trans Z_744 sg746
  have hk_761 := Nat.le_trans hk_745 sg746
  obtain ⟨Tg762, hg762, lg762, Xg762, eg762, Ng762, sg762, Wg762, kg762⟩ : ∃ (T' : State) (h' : Heap) (locs' : List Loc), Stand p l e room_1 (s.setVm T619.vm) m #[(.int p1), (.int p2), (.int p3), (.int p4)] below meth c T' locs' 29 149 ∧ T'.heap = h' ∧ Fr n0 locs' ∧ hg746.size ≤ h'.size ∧ own_W Z h' n0 dfl b360 kc360 b364 b402 b476 b586 dl382 dl438 dl530 dl658 (own_u q1 b364 b402 b476) (own_u q2 b364 b402 b476) (own_u q3 b364 b402 b476) (((0 + 1) + 1) + 1) ∧ (∀ t, Steps p.tables e below (T'.setTop (mkF m 160 #[.val (.int p1), .val (.int p2), .val (.int p3), .val (.int p4), .val (.ref b346), .val (.ref b360), .val (.int q1), .val (.int q2), .val (.int q3), .unset, .unset, .unset, .unset, .unset, .unset] [])) t → Steps p.tables e below (s₁.setTop (entryFrame m #[(.int p1), (.int p2), (.int p3), (.int p4)] maxLocals)) t) := by
    rcases c3 with rfl | rfl | rfl | rfl
    · obtain ⟨J0, J1, J2, J3, D0, D1, D2, D3, LL0, LL1, LL2, VJ, OO⟩ := Wg746
      have k763 : ∀ t, Steps p.tables e below (Tg746.setTop (mkF m 160 #[.val (.int p1), .val (.int p2), .val (.int p3), .val (.int p4), .val (.ref b346), .val (.ref b360), .val (.int q1), .val (.int q2), .val (.int (-1 : Int32)), .unset, .unset, .unset, .unset, .unset, .unset] [])) t → Steps p.tables e below (s₁.setTop (entryFrame m #[(.int p1), (.int p2), (.int p3), (.int p4)] maxLocals)) t := fun t kt => kg746 t (by
          let A0 : Array Slot := #[.val (.int p1), .val (.int p2), .val (.int p3), .val (.int p4), .val (.ref b346), .val (.ref b360), .val (.int q1), .val (.int q2), .val (.int (-1 : Int32)), .unset, .unset, .unset, .unset, .unset, .unset]
          show Steps p.tables e below (Tg746.setTop (mkF m 143 A0 [])) _
          refine XS.iload Xg746.here hx rfl (hb hby at_143) rfl ?_
          show Steps p.tables e below (Tg746.setTop (mkF m 145 A0 [(.int (-1 : Int32))])) _
          refine XS.ifYes Xg746.here hx rfl (pc0 := 145) (pc' := 160) rfl (hb hby at_145) rfl ((if0 _ _).trans (tlt (by decide : (-1 : Int32) < (0 : Int32))).1) (by decide) (by decide) ?_
          exact kt)
      refine ⟨Tg746, hg746, _, Xg746.more (by decide) (by decide), eg746, Ng746, Nat.le_refl _, ⟨J0, J1, J2, J3, D0, D1, D2, D3, LL0.mono (by omega), LL1.mono (by omega), LL2.mono (by omega), VJ, OO⟩, k763⟩
    · obtain ⟨J0, J1, J2, J3, D0, D1, D2, D3, LL0, LL1, LL2, VJ, OO⟩ := Wg746
      obtain ⟨cl764, Ar764, q764, S764, M764, H764, G764⟩ := id VJ
      have hin765 : ¬ ((3 : Int32) < 0 ∨ cl764.slots.size ≤ ((3 : Int32)).toNatClampNeg) := inb_of S764 ⟨by decide, by decide⟩
      have hat765 : cl764.slots[((3 : Int32)).toNatClampNeg]? = some (.ref b586) := H764.at hin765 rfl
      obtain ⟨cl766, Ar766, q766, S766, M766, H766, G766⟩ := id VJ
      have hin767 : ¬ ((0 : Int32) < 0 ∨ cl766.slots.size ≤ ((0 : Int32)).toNatClampNeg) := inb_of S766 ⟨by decide, by decide⟩
      have hat767 : cl766.slots[((0 : Int32)).toNatClampNeg]? = some (.ref b364) := H766.at hin767 rfl
      obtain ⟨cq768, kq768, q768a, q768b, q768c⟩ := isOf hZ eg746 J3.1
      obtain ⟨_, _, ⟨T768, L768, k768, n768⟩, -, X768, ⟨Lc768, hQ768, l768, y768, z768⟩, st768⟩ := Xg746.virtualBack hx (y := (⟨"com/example/arthurs_seat/arthursseat/language/Junction", "feed", "(Lcom/example/arthurs_seat/arthursseat/language/Junction;)V"⟩ : MethodName)) (z := (⟨"com/example/arthurs_seat/arthursseat/language/Junction", "feed", "(Lcom/example/arthurs_seat/arthursseat/language/Junction;)V"⟩ : MethodName)) hown (mvT hZ (hw _ (List.mem_of_getElem? (i := 80) rfl))) (mvT hZ (hw _ (List.mem_of_getElem? (i := 81) rfl))) (notFace_of_selects (args := #[]) (mvT hZ (hw _ (List.mem_of_getElem? (i := 83) rfl)))) (mvT hZ (hw _ (List.mem_of_getElem? (i := 83) rfl))) (mvT hZ (hw _ (List.mem_of_getElem? (i := 82) rfl))) (by decide) (backOf (W := 0) (rm9 l Z a0 hw [] b586 b364 dl382 dl658 dfl cd _ _ ((0 + 1) + 1) hg746 n0 Z_760 J3 J0 D3 D0 LL0 ne_b364_b586 g_b586 g_dl382 (by decide) (by decide) OO SD DA DS) hZ (hw _ (List.mem_of_getElem? (i := 84) rfl)) (hw _ (List.mem_of_getElem? (i := 37) rfl)) (by decide) (by decide)) q768a q768c (g := (mkF m 157 #[.val (.int p1), .val (.int p2), .val (.int p3), .val (.int p4), .val (.ref b346), .val (.ref b360), .val (.int q1), .val (.int q2), .val (.int (0 : Int32)), .unset, .unset, .unset, .unset, .unset, .unset] [(.ref b364), (.ref b586)])) rfl (by rw [hml]; rfl) (Steps.refl _) (argsL := [(.ref b364)]) (rest := []) (lenOf pd_10 rfl) rfl (by show 2 * 0 + _ ≤ _; exact Nat.le_of_eq rfl) (hb hby at_157) (fun _ _ => ⟨rfl, eg746, (by decide : 28 + 1 ≤ _), (by decide : 139 + 10 ≤ _)⟩)
      dsimp only [Pt.U, Pt.locs, Pt.cells, Pt.slots] at X768 l768 y768 z768 st768 hQ768
      subst l768 y768 z768
      obtain ⟨rfl, N768q, ⟨ed768, O_ed768, Kw768⟩, JN768, DN768, LN768, ON768⟩ := hQ768
      have N768 := Fr.app Ng746 N768q
      have k769 : ∀ t, Steps p.tables e below (T768.setTop (mkF m 160 #[.val (.int p1), .val (.int p2), .val (.int p3), .val (.int p4), .val (.ref b346), .val (.ref b360), .val (.int q1), .val (.int q2), .val (.int (0 : Int32)), .unset, .unset, .unset, .unset, .unset, .unset] [])) t → Steps p.tables e below (s₁.setTop (entryFrame m #[(.int p1), (.int p2), (.int p3), (.int p4)] maxLocals)) t := fun t kt => kg746 t (by
          let A0 : Array Slot := #[.val (.int p1), .val (.int p2), .val (.int p3), .val (.int p4), .val (.ref b346), .val (.ref b360), .val (.int q1), .val (.int q2), .val (.int (0 : Int32)), .unset, .unset, .unset, .unset, .unset, .unset]
          show Steps p.tables e below (Tg746.setTop (mkF m 143 A0 [])) _
          refine XS.iload Xg746.here hx rfl (hb hby at_143) rfl ?_
          show Steps p.tables e below (Tg746.setTop (mkF m 145 A0 [(.int (0 : Int32))])) _
          refine XS.ifNo Xg746.here hx rfl (hb hby at_145) rfl ((if0 _ _).trans (flt (by decide : ¬ ((0 : Int32) < (0 : Int32)))).1) ?_
          show Steps p.tables e below (Tg746.setTop (mkF m 148 A0 [])) _
          refine XS.aload Xg746.here hx rfl (hb hby at_148) rfl rfl ?_
          show Steps p.tables e below (Tg746.setTop (mkF m 150 A0 [(.ref b360)])) _
          refine XS.iconst Xg746.here hx rfl (hb hby at_150) ?_
          show Steps p.tables e below (Tg746.setTop (mkF m 151 A0 [(.int (3 : Int32)), (.ref b360)])) _
          refine Xg746.aaload hx (j := (3 : Int32)) (v := (.ref b586)) (by rw [eg746]; exact Ar764.1) (State.isArrayOf_alike hZ.alike Ar764.2.1) rfl Ar764.2.2 hin765 hat765 (g := (mkF m 151 A0 [(.int (3 : Int32)), (.ref b360)])) rfl rfl (hb hby at_151) _ ?_
          show Steps p.tables e below (Tg746.setTop (mkF m 152 A0 [(.ref b586)])) _
          refine XS.aload Xg746.here hx rfl (hb hby at_152) rfl rfl ?_
          show Steps p.tables e below (Tg746.setTop (mkF m 154 A0 [(.ref b360), (.ref b586)])) _
          refine XS.iload Xg746.here hx rfl (hb hby at_154) rfl ?_
          show Steps p.tables e below (Tg746.setTop (mkF m 156 A0 [(.int (0 : Int32)), (.ref b360), (.ref b586)])) _
          refine Xg746.aaload hx (j := (0 : Int32)) (v := (.ref b364)) (by rw [eg746]; exact Ar766.1) (State.isArrayOf_alike hZ.alike Ar766.2.1) rfl Ar766.2.2 hin767 hat767 (g := (mkF m 156 A0 [(.int (0 : Int32)), (.ref b360), (.ref b586)])) rfl rfl (hb hby at_156) _ ?_
          show Steps p.tables e below (Tg746.setTop (mkF m 157 A0 [(.ref b364), (.ref b586)])) _
          refine st768.trans ?_
          exact kt)
      obtain ⟨ce768, Ae768⟩ := id O_ed768
      obtain ⟨cj768, Aj768, -⟩ := id VJ
      obtain ⟨cj768', Aj768', -⟩ := own_arrKeep Aj768 Kw768
      refine ⟨T768, _, _, X768, rfl, N768, Kw768.1, ⟨J0.keep Kw768 (ninS ne_b364_b586 (ninS ne_b364_dl382 (ninS (own_neo (J0.1.keep Kw768) (hw _ (List.mem_of_getElem? (i := 36) rfl)) O_ed768) nin0))), J1.keep Kw768 (ninS ne_b402_b586 (ninS (Ne.symm ne_dl382_b402) (ninS (own_neo (J1.1.keep Kw768) (hw _ (List.mem_of_getElem? (i := 36) rfl)) O_ed768) nin0))), J2.keep Kw768 (ninS ne_b476_b586 (ninS (Ne.symm ne_dl382_b476) (ninS (own_neo (J2.1.keep Kw768) (hw _ (List.mem_of_getElem? (i := 36) rfl)) O_ed768) nin0))), JN768, D0.keep Kw768 (ninS ne_b364_b586 (ninS ne_b364_dl382 (ninS (own_neo (J0.1.keep Kw768) (hw _ (List.mem_of_getElem? (i := 36) rfl)) O_ed768) nin0))), D1.keep Kw768 (ninS ne_b402_b586 (ninS (Ne.symm ne_dl382_b402) (ninS (own_neo (J1.1.keep Kw768) (hw _ (List.mem_of_getElem? (i := 36) rfl)) O_ed768) nin0))), D2.keep Kw768 (ninS ne_b476_b586 (ninS (Ne.symm ne_dl382_b476) (ninS (own_neo (J2.1.keep Kw768) (hw _ (List.mem_of_getElem? (i := 36) rfl)) O_ed768) nin0))), DN768, LN768, (LL1.keep Kw768 (ninS ne_dl438_b586 (ninS (Ne.symm ne_dl382_dl438) (ninS (own_neo (LL1.1.keep Kw768) (hw _ (List.mem_of_getElem? (i := 44) rfl)) O_ed768) nin0)))).mono (by omega), (LL2.keep Kw768 (ninS ne_dl530_b586 (ninS (Ne.symm ne_dl382_dl530) (ninS (own_neo (LL2.1.keep Kw768) (hw _ (List.mem_of_getElem? (i := 44) rfl)) O_ed768) nin0)))).mono (by omega), VJ.keep Kw768 (ninS ne_b360_b586 (ninS ne_b360_dl382 (ninS (own_ne2 Aj768' Ae768 (by decide)) nin0))), ON768⟩, k769⟩
    · obtain ⟨J0, J1, J2, J3, D0, D1, D2, D3, LL0, LL1, LL2, VJ, OO⟩ := Wg746
      obtain ⟨cl770, Ar770, q770, S770, M770, H770, G770⟩ := id VJ
      have hin771 : ¬ ((3 : Int32) < 0 ∨ cl770.slots.size ≤ ((3 : Int32)).toNatClampNeg) := inb_of S770 ⟨by decide, by decide⟩
      have hat771 : cl770.slots[((3 : Int32)).toNatClampNeg]? = some (.ref b586) := H770.at hin771 rfl
      obtain ⟨cl772, Ar772, q772, S772, M772, H772, G772⟩ := id VJ
      have hin773 : ¬ ((1 : Int32) < 0 ∨ cl772.slots.size ≤ ((1 : Int32)).toNatClampNeg) := inb_of S772 ⟨by decide, by decide⟩
      have hat773 : cl772.slots[((1 : Int32)).toNatClampNeg]? = some (.ref b402) := H772.at hin773 rfl
      obtain ⟨cq774, kq774, q774a, q774b, q774c⟩ := isOf hZ eg746 J3.1
      obtain ⟨_, _, ⟨T774, L774, k774, n774⟩, -, X774, ⟨Lc774, hQ774, l774, y774, z774⟩, st774⟩ := Xg746.virtualBack hx (y := (⟨"com/example/arthurs_seat/arthursseat/language/Junction", "feed", "(Lcom/example/arthurs_seat/arthursseat/language/Junction;)V"⟩ : MethodName)) (z := (⟨"com/example/arthurs_seat/arthursseat/language/Junction", "feed", "(Lcom/example/arthurs_seat/arthursseat/language/Junction;)V"⟩ : MethodName)) hown (mvT hZ (hw _ (List.mem_of_getElem? (i := 80) rfl))) (mvT hZ (hw _ (List.mem_of_getElem? (i := 81) rfl))) (notFace_of_selects (args := #[]) (mvT hZ (hw _ (List.mem_of_getElem? (i := 83) rfl)))) (mvT hZ (hw _ (List.mem_of_getElem? (i := 83) rfl))) (mvT hZ (hw _ (List.mem_of_getElem? (i := 82) rfl))) (by decide) (backOf (W := 0) (rm9 l Z a0 hw [] b586 b402 dl438 dl658 dfl cd _ _ ((0 + 1) + 1) hg746 n0 Z_760 J3 J1 D3 D1 LL1 ne_b402_b586 g_b586 g_dl438 (by decide) (by decide) OO SD DA DS) hZ (hw _ (List.mem_of_getElem? (i := 84) rfl)) (hw _ (List.mem_of_getElem? (i := 37) rfl)) (by decide) (by decide)) q774a q774c (g := (mkF m 157 #[.val (.int p1), .val (.int p2), .val (.int p3), .val (.int p4), .val (.ref b346), .val (.ref b360), .val (.int q1), .val (.int q2), .val (.int (1 : Int32)), .unset, .unset, .unset, .unset, .unset, .unset] [(.ref b402), (.ref b586)])) rfl (by rw [hml]; rfl) (Steps.refl _) (argsL := [(.ref b402)]) (rest := []) (lenOf pd_10 rfl) rfl (by show 2 * 0 + _ ≤ _; exact Nat.le_of_eq rfl) (hb hby at_157) (fun _ _ => ⟨rfl, eg746, (by decide : 28 + 1 ≤ _), (by decide : 139 + 10 ≤ _)⟩)
      dsimp only [Pt.U, Pt.locs, Pt.cells, Pt.slots] at X774 l774 y774 z774 st774 hQ774
      subst l774 y774 z774
      obtain ⟨rfl, N774q, ⟨ed774, O_ed774, Kw774⟩, JN774, DN774, LN774, ON774⟩ := hQ774
      have N774 := Fr.app Ng746 N774q
      have k775 : ∀ t, Steps p.tables e below (T774.setTop (mkF m 160 #[.val (.int p1), .val (.int p2), .val (.int p3), .val (.int p4), .val (.ref b346), .val (.ref b360), .val (.int q1), .val (.int q2), .val (.int (1 : Int32)), .unset, .unset, .unset, .unset, .unset, .unset] [])) t → Steps p.tables e below (s₁.setTop (entryFrame m #[(.int p1), (.int p2), (.int p3), (.int p4)] maxLocals)) t := fun t kt => kg746 t (by
          let A0 : Array Slot := #[.val (.int p1), .val (.int p2), .val (.int p3), .val (.int p4), .val (.ref b346), .val (.ref b360), .val (.int q1), .val (.int q2), .val (.int (1 : Int32)), .unset, .unset, .unset, .unset, .unset, .unset]
          show Steps p.tables e below (Tg746.setTop (mkF m 143 A0 [])) _
          refine XS.iload Xg746.here hx rfl (hb hby at_143) rfl ?_
          show Steps p.tables e below (Tg746.setTop (mkF m 145 A0 [(.int (1 : Int32))])) _
          refine XS.ifNo Xg746.here hx rfl (hb hby at_145) rfl ((if0 _ _).trans (flt (by decide : ¬ ((1 : Int32) < (0 : Int32)))).1) ?_
          show Steps p.tables e below (Tg746.setTop (mkF m 148 A0 [])) _
          refine XS.aload Xg746.here hx rfl (hb hby at_148) rfl rfl ?_
          show Steps p.tables e below (Tg746.setTop (mkF m 150 A0 [(.ref b360)])) _
          refine XS.iconst Xg746.here hx rfl (hb hby at_150) ?_
          show Steps p.tables e below (Tg746.setTop (mkF m 151 A0 [(.int (3 : Int32)), (.ref b360)])) _
          refine Xg746.aaload hx (j := (3 : Int32)) (v := (.ref b586)) (by rw [eg746]; exact Ar770.1) (State.isArrayOf_alike hZ.alike Ar770.2.1) rfl Ar770.2.2 hin771 hat771 (g := (mkF m 151 A0 [(.int (3 : Int32)), (.ref b360)])) rfl rfl (hb hby at_151) _ ?_
          show Steps p.tables e below (Tg746.setTop (mkF m 152 A0 [(.ref b586)])) _
          refine XS.aload Xg746.here hx rfl (hb hby at_152) rfl rfl ?_
          show Steps p.tables e below (Tg746.setTop (mkF m 154 A0 [(.ref b360), (.ref b586)])) _
          refine XS.iload Xg746.here hx rfl (hb hby at_154) rfl ?_
          show Steps p.tables e below (Tg746.setTop (mkF m 156 A0 [(.int (1 : Int32)), (.ref b360), (.ref b586)])) _
          refine Xg746.aaload hx (j := (1 : Int32)) (v := (.ref b402)) (by rw [eg746]; exact Ar772.1) (State.isArrayOf_alike hZ.alike Ar772.2.1) rfl Ar772.2.2 hin773 hat773 (g := (mkF m 156 A0 [(.int (1 : Int32)), (.ref b360), (.ref b586)])) rfl rfl (hb hby at_156) _ ?_
          show Steps p.tables e below (Tg746.setTop (mkF m 157 A0 [(.ref b402), (.ref b586)])) _
          refine st774.trans ?_
          exact kt)
      obtain ⟨ce774, Ae774⟩ := id O_ed774
      obtain ⟨cj774, Aj774, -⟩ := id VJ
      obtain ⟨cj774', Aj774', -⟩ := own_arrKeep Aj774 Kw774
      refine ⟨T774, _, _, X774, rfl, N774, Kw774.1, ⟨J0.keep Kw774 (ninS ne_b364_b586 (ninS ne_b364_dl438 (ninS (own_neo (J0.1.keep Kw774) (hw _ (List.mem_of_getElem? (i := 36) rfl)) O_ed774) nin0))), J1.keep Kw774 (ninS ne_b402_b586 (ninS ne_b402_dl438 (ninS (own_neo (J1.1.keep Kw774) (hw _ (List.mem_of_getElem? (i := 36) rfl)) O_ed774) nin0))), J2.keep Kw774 (ninS ne_b476_b586 (ninS (Ne.symm ne_dl438_b476) (ninS (own_neo (J2.1.keep Kw774) (hw _ (List.mem_of_getElem? (i := 36) rfl)) O_ed774) nin0))), JN774, D0.keep Kw774 (ninS ne_b364_b586 (ninS ne_b364_dl438 (ninS (own_neo (J0.1.keep Kw774) (hw _ (List.mem_of_getElem? (i := 36) rfl)) O_ed774) nin0))), D1.keep Kw774 (ninS ne_b402_b586 (ninS ne_b402_dl438 (ninS (own_neo (J1.1.keep Kw774) (hw _ (List.mem_of_getElem? (i := 36) rfl)) O_ed774) nin0))), D2.keep Kw774 (ninS ne_b476_b586 (ninS (Ne.symm ne_dl438_b476) (ninS (own_neo (J2.1.keep Kw774) (hw _ (List.mem_of_getElem? (i := 36) rfl)) O_ed774) nin0))), DN774, (LL0.keep Kw774 (ninS ne_dl382_b586 (ninS ne_dl382_dl438 (ninS (own_neo (LL0.1.keep Kw774) (hw _ (List.mem_of_getElem? (i := 44) rfl)) O_ed774) nin0)))).mono (by omega), LN774, (LL2.keep Kw774 (ninS ne_dl530_b586 (ninS (Ne.symm ne_dl438_dl530) (ninS (own_neo (LL2.1.keep Kw774) (hw _ (List.mem_of_getElem? (i := 44) rfl)) O_ed774) nin0)))).mono (by omega), VJ.keep Kw774 (ninS ne_b360_b586 (ninS ne_b360_dl438 (ninS (own_ne2 Aj774' Ae774 (by decide)) nin0))), ON774⟩, k775⟩
    · obtain ⟨J0, J1, J2, J3, D0, D1, D2, D3, LL0, LL1, LL2, VJ, OO⟩ := Wg746
      obtain ⟨cl776, Ar776, q776, S776, M776, H776, G776⟩ := id VJ
      have hin777 : ¬ ((3 : Int32) < 0 ∨ cl776.slots.size ≤ ((3 : Int32)).toNatClampNeg) := inb_of S776 ⟨by decide, by decide⟩
      have hat777 : cl776.slots[((3 : Int32)).toNatClampNeg]? = some (.ref b586) := H776.at hin777 rfl
      obtain ⟨cl778, Ar778, q778, S778, M778, H778, G778⟩ := id VJ
      have hin779 : ¬ ((2 : Int32) < 0 ∨ cl778.slots.size ≤ ((2 : Int32)).toNatClampNeg) := inb_of S778 ⟨by decide, by decide⟩
      have hat779 : cl778.slots[((2 : Int32)).toNatClampNeg]? = some (.ref b476) := H778.at hin779 rfl
      obtain ⟨cq780, kq780, q780a, q780b, q780c⟩ := isOf hZ eg746 J3.1
      obtain ⟨_, _, ⟨T780, L780, k780, n780⟩, -, X780, ⟨Lc780, hQ780, l780, y780, z780⟩, st780⟩ := Xg746.virtualBack hx (y := (⟨"com/example/arthurs_seat/arthursseat/language/Junction", "feed", "(Lcom/example/arthurs_seat/arthursseat/language/Junction;)V"⟩ : MethodName)) (z := (⟨"com/example/arthurs_seat/arthursseat/language/Junction", "feed", "(Lcom/example/arthurs_seat/arthursseat/language/Junction;)V"⟩ : MethodName)) hown (mvT hZ (hw _ (List.mem_of_getElem? (i := 80) rfl))) (mvT hZ (hw _ (List.mem_of_getElem? (i := 81) rfl))) (notFace_of_selects (args := #[]) (mvT hZ (hw _ (List.mem_of_getElem? (i := 83) rfl)))) (mvT hZ (hw _ (List.mem_of_getElem? (i := 83) rfl))) (mvT hZ (hw _ (List.mem_of_getElem? (i := 82) rfl))) (by decide) (backOf (W := 0) (rm9 l Z a0 hw [] b586 b476 dl530 dl658 dfl cd _ _ ((0 + 1) + 1) hg746 n0 Z_760 J3 J2 D3 D2 LL2 ne_b476_b586 g_b586 g_dl530 (by decide) (by decide) OO SD DA DS) hZ (hw _ (List.mem_of_getElem? (i := 84) rfl)) (hw _ (List.mem_of_getElem? (i := 37) rfl)) (by decide) (by decide)) q780a q780c (g := (mkF m 157 #[.val (.int p1), .val (.int p2), .val (.int p3), .val (.int p4), .val (.ref b346), .val (.ref b360), .val (.int q1), .val (.int q2), .val (.int (2 : Int32)), .unset, .unset, .unset, .unset, .unset, .unset] [(.ref b476), (.ref b586)])) rfl (by rw [hml]; rfl) (Steps.refl _) (argsL := [(.ref b476)]) (rest := []) (lenOf pd_10 rfl) rfl (by show 2 * 0 + _ ≤ _; exact Nat.le_of_eq rfl) (hb hby at_157) (fun _ _ => ⟨rfl, eg746, (by decide : 28 + 1 ≤ _), (by decide : 139 + 10 ≤ _)⟩)
      dsimp only [Pt.U, Pt.locs, Pt.cells, Pt.slots] at X780 l780 y780 z780 st780 hQ780
      subst l780 y780 z780
      obtain ⟨rfl, N780q, ⟨ed780, O_ed780, Kw780⟩, JN780, DN780, LN780, ON780⟩ := hQ780
      have N780 := Fr.app Ng746 N780q
      have k781 : ∀ t, Steps p.tables e below (T780.setTop (mkF m 160 #[.val (.int p1), .val (.int p2), .val (.int p3), .val (.int p4), .val (.ref b346), .val (.ref b360), .val (.int q1), .val (.int q2), .val (.int (2 : Int32)), .unset, .unset, .unset, .unset, .unset, .unset] [])) t → Steps p.tables e below (s₁.setTop (entryFrame m #[(.int p1), (.int p2), (.int p3), (.int p4)] maxLocals)) t := fun t kt => kg746 t (by
          let A0 : Array Slot := #[.val (.int p1), .val (.int p2), .val (.int p3), .val (.int p4), .val (.ref b346), .val (.ref b360), .val (.int q1), .val (.int q2), .val (.int (2 : Int32)), .unset, .unset, .unset, .unset, .unset, .unset]
          show Steps p.tables e below (Tg746.setTop (mkF m 143 A0 [])) _
          refine XS.iload Xg746.here hx rfl (hb hby at_143) rfl ?_
          show Steps p.tables e below (Tg746.setTop (mkF m 145 A0 [(.int (2 : Int32))])) _
          refine XS.ifNo Xg746.here hx rfl (hb hby at_145) rfl ((if0 _ _).trans (flt (by decide : ¬ ((2 : Int32) < (0 : Int32)))).1) ?_
          show Steps p.tables e below (Tg746.setTop (mkF m 148 A0 [])) _
          refine XS.aload Xg746.here hx rfl (hb hby at_148) rfl rfl ?_
          show Steps p.tables e below (Tg746.setTop (mkF m 150 A0 [(.ref b360)])) _
          refine XS.iconst Xg746.here hx rfl (hb hby at_150) ?_
          show Steps p.tables e below (Tg746.setTop (mkF m 151 A0 [(.int (3 : Int32)), (.ref b360)])) _
          refine Xg746.aaload hx (j := (3 : Int32)) (v := (.ref b586)) (by rw [eg746]; exact Ar776.1) (State.isArrayOf_alike hZ.alike Ar776.2.1) rfl Ar776.2.2 hin777 hat777 (g := (mkF m 151 A0 [(.int (3 : Int32)), (.ref b360)])) rfl rfl (hb hby at_151) _ ?_
          show Steps p.tables e below (Tg746.setTop (mkF m 152 A0 [(.ref b586)])) _
          refine XS.aload Xg746.here hx rfl (hb hby at_152) rfl rfl ?_
          show Steps p.tables e below (Tg746.setTop (mkF m 154 A0 [(.ref b360), (.ref b586)])) _
          refine XS.iload Xg746.here hx rfl (hb hby at_154) rfl ?_
          show Steps p.tables e below (Tg746.setTop (mkF m 156 A0 [(.int (2 : Int32)), (.ref b360), (.ref b586)])) _
          refine Xg746.aaload hx (j := (2 : Int32)) (v := (.ref b476)) (by rw [eg746]; exact Ar778.1) (State.isArrayOf_alike hZ.alike Ar778.2.1) rfl Ar778.2.2 hin779 hat779 (g := (mkF m 156 A0 [(.int (2 : Int32)), (.ref b360), (.ref b586)])) rfl rfl (hb hby at_156) _ ?_
          show Steps p.tables e below (Tg746.setTop (mkF m 157 A0 [(.ref b476), (.ref b586)])) _
          refine st780.trans ?_
          exact kt)
      obtain ⟨ce780, Ae780⟩ := id O_ed780
      obtain ⟨cj780, Aj780, -⟩ := id VJ
      obtain ⟨cj780', Aj780', -⟩ := own_arrKeep Aj780 Kw780
      refine ⟨T780, _, _, X780, rfl, N780, Kw780.1, ⟨J0.keep Kw780 (ninS ne_b364_b586 (ninS ne_b364_dl530 (ninS (own_neo (J0.1.keep Kw780) (hw _ (List.mem_of_getElem? (i := 36) rfl)) O_ed780) nin0))), J1.keep Kw780 (ninS ne_b402_b586 (ninS ne_b402_dl530 (ninS (own_neo (J1.1.keep Kw780) (hw _ (List.mem_of_getElem? (i := 36) rfl)) O_ed780) nin0))), J2.keep Kw780 (ninS ne_b476_b586 (ninS ne_b476_dl530 (ninS (own_neo (J2.1.keep Kw780) (hw _ (List.mem_of_getElem? (i := 36) rfl)) O_ed780) nin0))), JN780, D0.keep Kw780 (ninS ne_b364_b586 (ninS ne_b364_dl530 (ninS (own_neo (J0.1.keep Kw780) (hw _ (List.mem_of_getElem? (i := 36) rfl)) O_ed780) nin0))), D1.keep Kw780 (ninS ne_b402_b586 (ninS ne_b402_dl530 (ninS (own_neo (J1.1.keep Kw780) (hw _ (List.mem_of_getElem? (i := 36) rfl)) O_ed780) nin0))), D2.keep Kw780 (ninS ne_b476_b586 (ninS ne_b476_dl530 (ninS (own_neo (J2.1.keep Kw780) (hw _ (List.mem_of_getElem? (i := 36) rfl)) O_ed780) nin0))), DN780, (LL0.keep Kw780 (ninS ne_dl382_b586 (ninS ne_dl382_dl530 (ninS (own_neo (LL0.1.keep Kw780) (hw _ (List.mem_of_getElem? (i := 44) rfl)) O_ed780) nin0)))).mono (by omega), (LL1.keep Kw780 (ninS ne_dl438_b586 (ninS ne_dl438_dl530 (ninS (own_neo (LL1.1.keep Kw780) (hw _ (List.mem_of_getElem? (i := 44) rfl)) O_ed780) nin0)))).mono (by omega), LN780, VJ.keep Kw780 (ninS ne_b360_b586 (ninS ne_b360_dl530 (ninS (own_ne2 Aj780' Ae780 (by decide)) nin0))), ON780⟩, k781⟩
  have Z_782 : n0 ≤ hg762.size := Nat.le_trans Z_760 sg762
  have hk_783 := Nat.le_trans hk_761 sg762
  have k784 : ∀ t, Steps p.tables e below (Tg762.setTop (mkF m 165 #[.val (.int p1), .val (.int p2), .val (.int p3), .val (.int p4), .val (.ref b346), .val (.ref b360), .val (.int q1), .val (.int q2), .val (.int q3), .val (.int (0 : Int32)), .unset, .unset, .unset, .unset, .unset] [(.int q1)])) t → Steps p.tables e below (s₁.setTop (entryFrame m #[(.int p1), (.int p2), (.int p3), (.int p4)] maxLocals)) t := fun t kt => kg762 t (by
      let A0 : Array Slot := #[.val (.int p1), .val (.int p2), .val (.int p3), .val (.int p4), .val (.ref b346), .val (.ref b360), .val (.int q1), .val (.int q2), .val (.int q3), .unset, .unset, .unset, .unset, .unset, .unset]
      show Steps p.tables e below (Tg762.setTop (mkF m 160 A0 [])) _
      refine XS.iconst Xg762.here hx rfl (hb hby at_160) ?_
      show Steps p.tables e below (Tg762.setTop (mkF m 161 A0 [(.int (0 : Int32))])) _
      let A1 : Array Slot := #[.val (.int p1), .val (.int p2), .val (.int p3), .val (.int p4), .val (.ref b346), .val (.ref b360), .val (.int q1), .val (.int q2), .val (.int q3), .val (.int (0 : Int32)), .unset, .unset, .unset, .unset, .unset]
      refine XS.istore Xg762.here hx rfl (hb hby at_161) rfl (l' := A1) rfl ?_
      show Steps p.tables e below (Tg762.setTop (mkF m 163 A1 [])) _
      refine XS.iload Xg762.here hx rfl (hb hby at_163) rfl ?_
      exact kt)
  obtain ⟨v786, hv786⟩ : ∃ v : Int32, v = (if q1 < (0 : Int32) then (1 : Int32) else (0 : Int32)) := ⟨_, rfl⟩
  have k787 : ∀ t, Steps p.tables e below (Tg762.setTop (mkF m 174 #[.val (.int p1), .val (.int p2), .val (.int p3), .val (.int p4), .val (.ref b346), .val (.ref b360), .val (.int q1), .val (.int q2), .val (.int q3), .val (.int (0 : Int32)), .unset, .unset, .unset, .unset, .unset] [(.int v786)])) t → Steps p.tables e below (s₁.setTop (entryFrame m #[(.int p1), (.int p2), (.int p3), (.int p4)] maxLocals)) t := by
    intro t kt
    by_cases hc165_785 : q1 < (0 : Int32)
    · rw [show v786 = (1 : Int32) from (hv786.trans (if_pos hc165_785))] at kt
      exact k784 t (by
          let A0 : Array Slot := #[.val (.int p1), .val (.int p2), .val (.int p3), .val (.int p4), .val (.ref b346), .val (.ref b360), .val (.int q1), .val (.int q2), .val (.int q3), .val (.int (0 : Int32)), .unset, .unset, .unset, .unset, .unset]
          show Steps p.tables e below (Tg762.setTop (mkF m 165 A0 [(.int q1)])) _
          refine XS.ifNo Xg762.here hx rfl (hb hby at_165) rfl ((if0 _ _).trans (tlt hc165_785).2.1) ?_
          show Steps p.tables e below (Tg762.setTop (mkF m 168 A0 [])) _
          refine XS.iconst Xg762.here hx rfl (hb hby at_168) ?_
          show Steps p.tables e below (Tg762.setTop (mkF m 169 A0 [(.int (1 : Int32))])) _
          refine XS.goto Xg762.here hx rfl (pc0 := 169) (pc' := 174) rfl (hb hby at_169) (by decide) (by decide) ?_
          exact kt)
    · rw [show v786 = (0 : Int32) from (hv786.trans (if_neg hc165_785))] at kt
      exact k784 t (by
          let A0 : Array Slot := #[.val (.int p1), .val (.int p2), .val (.int p3), .val (.int p4), .val (.ref b346), .val (.ref b360), .val (.int q1), .val (.int q2), .val (.int q3), .val (.int (0 : Int32)), .unset, .unset, .unset, .unset, .unset]
          show Steps p.tables e below (Tg762.setTop (mkF m 165 A0 [(.int q1)])) _
          refine XS.ifYes Xg762.here hx rfl (pc0 := 165) (pc' := 172) rfl (hb hby at_165) rfl ((if0 _ _).trans (flt hc165_785).2.1) (by decide) (by decide) ?_
          show Steps p.tables e below (Tg762.setTop (mkF m 172 A0 [])) _
          refine XS.iload Xg762.here hx rfl (hb hby at_172) rfl ?_
          exact kt)
  have k788 : ∀ t, Steps p.tables e below (Tg762.setTop (mkF m 178 #[.val (.int p1), .val (.int p2), .val (.int p3), .val (.int p4), .val (.ref b346), .val (.ref b360), .val (.int q1), .val (.int q2), .val (.int q3), .val (.int (0 : Int32)), .val (.int v786), .unset, .unset, .unset, .unset] [(.int q2)])) t → Steps p.tables e below (s₁.setTop (entryFrame m #[(.int p1), (.int p2), (.int p3), (.int p4)] maxLocals)) t := fun t kt => k787 t (by
      show Steps p.tables e below (Tg762.setTop (mkF m 174 #[.val (.int p1), .val (.int p2), .val (.int p3), .val (.int p4), .val (.ref b346), .val (.ref b360), .val (.int q1), .val (.int q2), .val (.int q3), .val (.int (0 : Int32)), .unset, .unset, .unset, .unset, .unset] [(.int v786)])) _
      let A0 : Array Slot := #[.val (.int p1), .val (.int p2), .val (.int p3), .val (.int p4), .val (.ref b346), .val (.ref b360), .val (.int q1), .val (.int q2), .val (.int q3), .val (.int (0 : Int32)), .val (.int v786), .unset, .unset, .unset, .unset]
      refine XS.istore Xg762.here hx rfl (hb hby at_174) rfl (l' := A0) rfl ?_
      show Steps p.tables e below (Tg762.setTop (mkF m 176 A0 [])) _
      refine XS.iload Xg762.here hx rfl (hb hby at_176) rfl ?_
      exact kt)
  obtain ⟨v791, hv791⟩ : ∃ v : Int32, v = (if q2 < (0 : Int32) then (2 : Int32) else (if q2 = (0 : Int32) then (0 : Int32) else v786)) := ⟨_, rfl⟩
  have k792 : ∀ t, Steps p.tables e below (Tg762.setTop (mkF m 197 #[.val (.int p1), .val (.int p2), .val (.int p3), .val (.int p4), .val (.ref b346), .val (.ref b360), .val (.int q1), .val (.int q2), .val (.int q3), .val (.int (0 : Int32)), .val (.int v786), .unset, .unset, .unset, .unset] [(.int v791)])) t → Steps p.tables e below (s₁.setTop (entryFrame m #[(.int p1), (.int p2), (.int p3), (.int p4)] maxLocals)) t := by
    intro t kt
    by_cases hc178_789 : q2 < (0 : Int32)
    · rw [show v791 = (2 : Int32) from (hv791.trans (if_pos hc178_789))] at kt
      exact k788 t (by
          let A0 : Array Slot := #[.val (.int p1), .val (.int p2), .val (.int p3), .val (.int p4), .val (.ref b346), .val (.ref b360), .val (.int q1), .val (.int q2), .val (.int q3), .val (.int (0 : Int32)), .val (.int v786), .unset, .unset, .unset, .unset]
          show Steps p.tables e below (Tg762.setTop (mkF m 178 A0 [(.int q2)])) _
          refine XS.ifNo Xg762.here hx rfl (hb hby at_178) rfl ((if0 _ _).trans (tlt hc178_789).2.1) ?_
          show Steps p.tables e below (Tg762.setTop (mkF m 181 A0 [])) _
          refine XS.iconst Xg762.here hx rfl (hb hby at_181) ?_
          show Steps p.tables e below (Tg762.setTop (mkF m 182 A0 [(.int (2 : Int32))])) _
          refine XS.goto Xg762.here hx rfl (pc0 := 182) (pc' := 197) rfl (hb hby at_182) (by decide) (by decide) ?_
          exact kt)
    · by_cases hc187_790 : q2 = (0 : Int32)
      · rw [show v791 = (0 : Int32) from ((hv791.trans (if_neg hc178_789)).trans (if_pos hc187_790))] at kt
        exact k788 t (by
            let A0 : Array Slot := #[.val (.int p1), .val (.int p2), .val (.int p3), .val (.int p4), .val (.ref b346), .val (.ref b360), .val (.int q1), .val (.int q2), .val (.int q3), .val (.int (0 : Int32)), .val (.int v786), .unset, .unset, .unset, .unset]
            show Steps p.tables e below (Tg762.setTop (mkF m 178 A0 [(.int q2)])) _
            refine XS.ifYes Xg762.here hx rfl (pc0 := 178) (pc' := 185) rfl (hb hby at_178) rfl ((if0 _ _).trans (flt hc178_789).2.1) (by decide) (by decide) ?_
            show Steps p.tables e below (Tg762.setTop (mkF m 185 A0 [])) _
            refine XS.iload Xg762.here hx rfl (hb hby at_185) rfl ?_
            show Steps p.tables e below (Tg762.setTop (mkF m 187 A0 [(.int q2)])) _
            refine XS.ifNo Xg762.here hx rfl (hb hby at_187) rfl ((if0 _ _).trans (teq hc187_790).2) ?_
            show Steps p.tables e below (Tg762.setTop (mkF m 190 A0 [])) _
            refine XS.iload Xg762.here hx rfl (hb hby at_190) rfl ?_
            show Steps p.tables e below (Tg762.setTop (mkF m 192 A0 [(.int (0 : Int32))])) _
            refine XS.goto Xg762.here hx rfl (pc0 := 192) (pc' := 197) rfl (hb hby at_192) (by decide) (by decide) ?_
            exact kt)
      · rw [show v791 = v786 from ((hv791.trans (if_neg hc178_789)).trans (if_neg hc187_790))] at kt
        exact k788 t (by
            let A0 : Array Slot := #[.val (.int p1), .val (.int p2), .val (.int p3), .val (.int p4), .val (.ref b346), .val (.ref b360), .val (.int q1), .val (.int q2), .val (.int q3), .val (.int (0 : Int32)), .val (.int v786), .unset, .unset, .unset, .unset]
            show Steps p.tables e below (Tg762.setTop (mkF m 178 A0 [(.int q2)])) _
            refine XS.ifYes Xg762.here hx rfl (pc0 := 178) (pc' := 185) rfl (hb hby at_178) rfl ((if0 _ _).trans (flt hc178_789).2.1) (by decide) (by decide) ?_
            show Steps p.tables e below (Tg762.setTop (mkF m 185 A0 [])) _
            refine XS.iload Xg762.here hx rfl (hb hby at_185) rfl ?_
            show Steps p.tables e below (Tg762.setTop (mkF m 187 A0 [(.int q2)])) _
            refine XS.ifYes Xg762.here hx rfl (pc0 := 187) (pc' := 195) rfl (hb hby at_187) rfl ((if0 _ _).trans (feq hc187_790).2) (by decide) (by decide) ?_
            show Steps p.tables e below (Tg762.setTop (mkF m 195 A0 [])) _
            refine XS.iload Xg762.here hx rfl (hb hby at_195) rfl ?_
            exact kt)
  have k793 : ∀ t, Steps p.tables e below (Tg762.setTop (mkF m 201 #[.val (.int p1), .val (.int p2), .val (.int p3), .val (.int p4), .val (.ref b346), .val (.ref b360), .val (.int q1), .val (.int q2), .val (.int q3), .val (.int (0 : Int32)), .val (.int v786), .val (.int v791), .unset, .unset, .unset] [(.int q3)])) t → Steps p.tables e below (s₁.setTop (entryFrame m #[(.int p1), (.int p2), (.int p3), (.int p4)] maxLocals)) t := fun t kt => k792 t (by
      show Steps p.tables e below (Tg762.setTop (mkF m 197 #[.val (.int p1), .val (.int p2), .val (.int p3), .val (.int p4), .val (.ref b346), .val (.ref b360), .val (.int q1), .val (.int q2), .val (.int q3), .val (.int (0 : Int32)), .val (.int v786), .unset, .unset, .unset, .unset] [(.int v791)])) _
      let A0 : Array Slot := #[.val (.int p1), .val (.int p2), .val (.int p3), .val (.int p4), .val (.ref b346), .val (.ref b360), .val (.int q1), .val (.int q2), .val (.int q3), .val (.int (0 : Int32)), .val (.int v786), .val (.int v791), .unset, .unset, .unset]
      refine XS.istore Xg762.here hx rfl (hb hby at_197) rfl (l' := A0) rfl ?_
      show Steps p.tables e below (Tg762.setTop (mkF m 199 A0 [])) _
      refine XS.iload Xg762.here hx rfl (hb hby at_199) rfl ?_
      exact kt)
  obtain ⟨v797, hv797⟩ : ∃ v : Int32, v = (if q3 < (0 : Int32) then (3 : Int32) else (if q3 = (0 : Int32) then (0 : Int32) else (if q3 = (1 : Int32) then v786 else v791))) := ⟨_, rfl⟩
  have k798 : ∀ t, Steps p.tables e below (Tg762.setTop (mkF m 231 #[.val (.int p1), .val (.int p2), .val (.int p3), .val (.int p4), .val (.ref b346), .val (.ref b360), .val (.int q1), .val (.int q2), .val (.int q3), .val (.int (0 : Int32)), .val (.int v786), .val (.int v791), .unset, .unset, .unset] [(.int v797)])) t → Steps p.tables e below (s₁.setTop (entryFrame m #[(.int p1), (.int p2), (.int p3), (.int p4)] maxLocals)) t := by
    intro t kt
    by_cases hc201_794 : q3 < (0 : Int32)
    · rw [show v797 = (3 : Int32) from (hv797.trans (if_pos hc201_794))] at kt
      exact k793 t (by
          let A0 : Array Slot := #[.val (.int p1), .val (.int p2), .val (.int p3), .val (.int p4), .val (.ref b346), .val (.ref b360), .val (.int q1), .val (.int q2), .val (.int q3), .val (.int (0 : Int32)), .val (.int v786), .val (.int v791), .unset, .unset, .unset]
          show Steps p.tables e below (Tg762.setTop (mkF m 201 A0 [(.int q3)])) _
          refine XS.ifNo Xg762.here hx rfl (hb hby at_201) rfl ((if0 _ _).trans (tlt hc201_794).2.1) ?_
          show Steps p.tables e below (Tg762.setTop (mkF m 204 A0 [])) _
          refine XS.iconst Xg762.here hx rfl (hb hby at_204) ?_
          show Steps p.tables e below (Tg762.setTop (mkF m 205 A0 [(.int (3 : Int32))])) _
          refine XS.goto Xg762.here hx rfl (pc0 := 205) (pc' := 231) rfl (hb hby at_205) (by decide) (by decide) ?_
          exact kt)
    · by_cases hc210_795 : q3 = (0 : Int32)
      · rw [show v797 = (0 : Int32) from ((hv797.trans (if_neg hc201_794)).trans (if_pos hc210_795))] at kt
        exact k793 t (by
            let A0 : Array Slot := #[.val (.int p1), .val (.int p2), .val (.int p3), .val (.int p4), .val (.ref b346), .val (.ref b360), .val (.int q1), .val (.int q2), .val (.int q3), .val (.int (0 : Int32)), .val (.int v786), .val (.int v791), .unset, .unset, .unset]
            show Steps p.tables e below (Tg762.setTop (mkF m 201 A0 [(.int q3)])) _
            refine XS.ifYes Xg762.here hx rfl (pc0 := 201) (pc' := 208) rfl (hb hby at_201) rfl ((if0 _ _).trans (flt hc201_794).2.1) (by decide) (by decide) ?_
            show Steps p.tables e below (Tg762.setTop (mkF m 208 A0 [])) _
            refine XS.iload Xg762.here hx rfl (hb hby at_208) rfl ?_
            show Steps p.tables e below (Tg762.setTop (mkF m 210 A0 [(.int q3)])) _
            refine XS.ifNo Xg762.here hx rfl (hb hby at_210) rfl ((if0 _ _).trans (teq hc210_795).2) ?_
            show Steps p.tables e below (Tg762.setTop (mkF m 213 A0 [])) _
            refine XS.iload Xg762.here hx rfl (hb hby at_213) rfl ?_
            show Steps p.tables e below (Tg762.setTop (mkF m 215 A0 [(.int (0 : Int32))])) _
            refine XS.goto Xg762.here hx rfl (pc0 := 215) (pc' := 231) rfl (hb hby at_215) (by decide) (by decide) ?_
            exact kt)
      · by_cases hc221_796 : q3 = (1 : Int32)
        · rw [show v797 = v786 from (((hv797.trans (if_neg hc201_794)).trans (if_neg hc210_795)).trans (if_pos hc221_796))] at kt
          exact k793 t (by
              let A0 : Array Slot := #[.val (.int p1), .val (.int p2), .val (.int p3), .val (.int p4), .val (.ref b346), .val (.ref b360), .val (.int q1), .val (.int q2), .val (.int q3), .val (.int (0 : Int32)), .val (.int v786), .val (.int v791), .unset, .unset, .unset]
              show Steps p.tables e below (Tg762.setTop (mkF m 201 A0 [(.int q3)])) _
              refine XS.ifYes Xg762.here hx rfl (pc0 := 201) (pc' := 208) rfl (hb hby at_201) rfl ((if0 _ _).trans (flt hc201_794).2.1) (by decide) (by decide) ?_
              show Steps p.tables e below (Tg762.setTop (mkF m 208 A0 [])) _
              refine XS.iload Xg762.here hx rfl (hb hby at_208) rfl ?_
              show Steps p.tables e below (Tg762.setTop (mkF m 210 A0 [(.int q3)])) _
              refine XS.ifYes Xg762.here hx rfl (pc0 := 210) (pc' := 218) rfl (hb hby at_210) rfl ((if0 _ _).trans (feq hc210_795).2) (by decide) (by decide) ?_
              show Steps p.tables e below (Tg762.setTop (mkF m 218 A0 [])) _
              refine XS.iload Xg762.here hx rfl (hb hby at_218) rfl ?_
              show Steps p.tables e below (Tg762.setTop (mkF m 220 A0 [(.int q3)])) _
              refine XS.iconst Xg762.here hx rfl (hb hby at_220) ?_
              show Steps p.tables e below (Tg762.setTop (mkF m 221 A0 [(.int (1 : Int32)), (.int q3)])) _
              refine XS.icmpNo Xg762.here hx rfl (hb hby at_221) rfl (teq hc221_796).2 ?_
              show Steps p.tables e below (Tg762.setTop (mkF m 224 A0 [])) _
              refine XS.iload Xg762.here hx rfl (hb hby at_224) rfl ?_
              show Steps p.tables e below (Tg762.setTop (mkF m 226 A0 [(.int v786)])) _
              refine XS.goto Xg762.here hx rfl (pc0 := 226) (pc' := 231) rfl (hb hby at_226) (by decide) (by decide) ?_
              exact kt)
        · rw [show v797 = v791 from (((hv797.trans (if_neg hc201_794)).trans (if_neg hc210_795)).trans (if_neg hc221_796))] at kt
          exact k793 t (by
              let A0 : Array Slot := #[.val (.int p1), .val (.int p2), .val (.int p3), .val (.int p4), .val (.ref b346), .val (.ref b360), .val (.int q1), .val (.int q2), .val (.int q3), .val (.int (0 : Int32)), .val (.int v786), .val (.int v791), .unset, .unset, .unset]
              show Steps p.tables e below (Tg762.setTop (mkF m 201 A0 [(.int q3)])) _
              refine XS.ifYes Xg762.here hx rfl (pc0 := 201) (pc' := 208) rfl (hb hby at_201) rfl ((if0 _ _).trans (flt hc201_794).2.1) (by decide) (by decide) ?_
              show Steps p.tables e below (Tg762.setTop (mkF m 208 A0 [])) _
              refine XS.iload Xg762.here hx rfl (hb hby at_208) rfl ?_
              show Steps p.tables e below (Tg762.setTop (mkF m 210 A0 [(.int q3)])) _
              refine XS.ifYes Xg762.here hx rfl (pc0 := 210) (pc' := 218) rfl (hb hby at_210) rfl ((if0 _ _).trans (feq hc210_795).2) (by decide) (by decide) ?_
              show Steps p.tables e below (Tg762.setTop (mkF m 218 A0 [])) _
              refine XS.iload Xg762.here hx rfl (hb hby at_218) rfl ?_
              show Steps p.tables e below (Tg762.setTop (mkF m 220 A0 [(.int q3)])) _
              refine XS.iconst Xg762.here hx rfl (hb hby at_220) ?_
              show Steps p.tables e below (Tg762.setTop (mkF m 221 A0 [(.int (1 : Int32)), (.int q3)])) _
              refine XS.icmpYes Xg762.here hx rfl (pc0 := 221) (pc' := 229) rfl (hb hby at_221) rfl (feq hc221_796).2 (by decide) (by decide) ?_
              show Steps p.tables e below (Tg762.setTop (mkF m 229 A0 [])) _
              refine XS.iload Xg762.here hx rfl (hb hby at_229) rfl ?_
              exact kt)
  have eh1 : v786 = own_h1 q1 := by rw [hv786]; rfl
  have eh2 : v791 = own_h2 q1 q2 := by rw [hv791, eh1]; rfl
  have eh3 : v797 = own_h3 q1 q2 q3 := by rw [hv797, eh1, eh2]; rfl
  obtain ⟨kk, hkk, ck⟩ := own_k p4
  have k799 : ∀ t, Steps p.tables e below (Tg762.setTop (mkF m 236 #[.val (.int p1), .val (.int p2), .val (.int p3), .val (.int p4), .val (.ref b346), .val (.ref b360), .val (.int q1), .val (.int q2), .val (.int q3), .val (.int (0 : Int32)), .val (.int v786), .val (.int v791), .val (.int v797), .unset, .unset] [(.int (p4 &&& (3 : Int32)))])) t → Steps p.tables e below (s₁.setTop (entryFrame m #[(.int p1), (.int p2), (.int p3), (.int p4)] maxLocals)) t := fun t kt => k798 t (by
      show Steps p.tables e below (Tg762.setTop (mkF m 231 #[.val (.int p1), .val (.int p2), .val (.int p3), .val (.int p4), .val (.ref b346), .val (.ref b360), .val (.int q1), .val (.int q2), .val (.int q3), .val (.int (0 : Int32)), .val (.int v786), .val (.int v791), .unset, .unset, .unset] [(.int v797)])) _
      let A0 : Array Slot := #[.val (.int p1), .val (.int p2), .val (.int p3), .val (.int p4), .val (.ref b346), .val (.ref b360), .val (.int q1), .val (.int q2), .val (.int q3), .val (.int (0 : Int32)), .val (.int v786), .val (.int v791), .val (.int v797), .unset, .unset]
      refine XS.istore Xg762.here hx rfl (hb hby at_231) rfl (l' := A0) rfl ?_
      show Steps p.tables e below (Tg762.setTop (mkF m 233 A0 [])) _
      refine XS.iloadN Xg762.here hx rfl (hb hby at_233) rfl ?_
      show Steps p.tables e below (Tg762.setTop (mkF m 234 A0 [(.int p4)])) _
      refine XS.iconst Xg762.here hx rfl (hb hby at_234) ?_
      show Steps p.tables e below (Tg762.setTop (mkF m 235 A0 [(.int (3 : Int32)), (.int p4)])) _
      refine XS.iand Xg762.here hx rfl (hb hby at_235) rfl ?_
      exact kt)
  rw [← hkk] at k799
  obtain ⟨J0, J1, J2, J3, D0, D1, D2, D3, LL0, LL1, LL2, VJ, OO⟩ := id Wg762
  have k800 : ∀ t, Steps p.tables e below (Tg762.setTop (mkF m 238 #[.val (.int p1), .val (.int p2), .val (.int p3), .val (.int p4), .val (.ref b346), .val (.ref b360), .val (.int q1), .val (.int q2), .val (.int q3), .val (.int (0 : Int32)), .val (.int v786), .val (.int v791), .val (.int v797), .val (.int kk), .unset] [])) t → Steps p.tables e below (s₁.setTop (entryFrame m #[(.int p1), (.int p2), (.int p3), (.int p4)] maxLocals)) t := fun t kt => k799 t (by
      show Steps p.tables e below (Tg762.setTop (mkF m 236 #[.val (.int p1), .val (.int p2), .val (.int p3), .val (.int p4), .val (.ref b346), .val (.ref b360), .val (.int q1), .val (.int q2), .val (.int q3), .val (.int (0 : Int32)), .val (.int v786), .val (.int v791), .val (.int v797), .unset, .unset] [(.int kk)])) _
      refine XS.istore Xg762.here hx rfl (hb hby at_236) rfl (l' := #[.val (.int p1), .val (.int p2), .val (.int p3), .val (.int p4), .val (.ref b346), .val (.ref b360), .val (.int q1), .val (.int q2), .val (.int q3), .val (.int (0 : Int32)), .val (.int v786), .val (.int v791), .val (.int v797), .val (.int kk), .unset]) rfl ?_
      exact kt)
  rcases ck with rfl | rfl | rfl | rfl
  · have UP : own_Up Z hg762 0 b364 (own_sel (0 : Int32) b364 b402 b476 b586) := (own_up0 Wg762)
    have RG : (0 : Int32) = (0 : Int32) ∨ (0 : Int32) = (1 : Int32) ∨ (0 : Int32) = (2 : Int32) ∨ (0 : Int32) = (3 : Int32) := (Or.inl rfl)
    obtain ⟨cl801, Ar801, q801, S801, M801, H801, G801⟩ := id VJ
    have hin802 : ¬ ((0 : Int32) < 0 ∨ cl801.slots.size ≤ ((0 : Int32)).toNatClampNeg) := inb_of S801 ⟨by decide, by decide⟩
    have hat802 : cl801.slots[((0 : Int32)).toNatClampNeg]? = some (.ref b364) := H801.at hin802 rfl
    obtain ⟨cq803, kq803, q803a, q803b, q803c⟩ := isOf hZ eg762 J0.1
    obtain ⟨_, _, ⟨T803, L803, k803, n803⟩, -, X803, ⟨Lc803, hQ803, l803, y803, z803⟩, st803⟩ := Xg762.virtualBack hx (y := (⟨"com/example/arthurs_seat/arthursseat/language/Junction", "head", "()Lcom/example/arthurs_seat/arthursseat/language/Junction;"⟩ : MethodName)) (z := (⟨"com/example/arthurs_seat/arthursseat/language/Junction", "head", "()Lcom/example/arthurs_seat/arthursseat/language/Junction;"⟩ : MethodName)) hown (mvT hZ (hw _ (List.mem_of_getElem? (i := 126) rfl))) (mvT hZ (hw _ (List.mem_of_getElem? (i := 127) rfl))) (notFace_of_selects (args := #[]) (mvT hZ (hw _ (List.mem_of_getElem? (i := 129) rfl)))) (mvT hZ (hw _ (List.mem_of_getElem? (i := 129) rfl))) (mvT hZ (hw _ (List.mem_of_getElem? (i := 128) rfl))) (by decide) (backOf (W := 0) (rm15 l Z a0 hw [] b364 (own_sel (0 : Int32) b364 b402 b476 b586) 0 hg762 n0 Z_782 UP) hZ (hw _ (List.mem_of_getElem? (i := 130) rfl)) (hw _ (List.mem_of_getElem? (i := 37) rfl)) (by decide) (by decide)) q803a q803c (g := (mkF m 279 #[.val (.int p1), .val (.int p2), .val (.int p3), .val (.int p4), .val (.ref b346), .val (.ref b360), .val (.int q1), .val (.int q2), .val (.int q3), .val (.int (0 : Int32)), .val (.int v786), .val (.int v791), .val (.int v797), .val (.int (0 : Int32)), .val (.int (0 : Int32))] [(.ref b364)])) rfl (by rw [hml]; rfl) (Steps.refl _) (argsL := []) (rest := []) (lenOf pd_11 rfl) rfl (by show 2 * 0 + _ ≤ _; exact Nat.le_of_eq rfl) (hb hby at_279) (fun _ _ => ⟨rfl, eg762, (by decide : 29 + 0 ≤ _), (by decide : 149 + 0 ≤ _)⟩)
    dsimp only [Pt.U, Pt.locs, Pt.cells, Pt.slots] at X803 l803 y803 z803 st803 hQ803
    subst l803 y803 z803
    obtain ⟨rfl, N803q, e803⟩ := hQ803
    have N803 := Fr.app Ng762 N803q
    obtain ⟨cl804, Ar804, q804, S804, M804, H804, G804⟩ := id VJ
    have hin805 : ¬ ((0 : Int32) < 0 ∨ cl804.slots.size ≤ ((0 : Int32)).toNatClampNeg) := inb_of S804 (own_in4 RG)
    have hat805 : cl804.slots[((0 : Int32)).toNatClampNeg]? = some (.ref (own_sel (0 : Int32) b364 b402 b476 b586)) := H804.at hin805 (own_get RG)
    have k806 : ∀ t, Steps p.tables e below (T803.setTop (mkF m 295 #[.val (.int p1), .val (.int p2), .val (.int p3), .val (.int p4), .val (.ref b346), .val (.ref b360), .val (.int q1), .val (.int q2), .val (.int q3), .val (.int (0 : Int32)), .val (.int v786), .val (.int v791), .val (.int v797), .val (.int (0 : Int32)), .val (.int (0 : Int32))] [(.int (1 : Int32))])) t → Steps p.tables e below (s₁.setTop (entryFrame m #[(.int p1), (.int p2), (.int p3), (.int p4)] maxLocals)) t := fun t kt => k800 t (by
        let A0 : Array Slot := #[.val (.int p1), .val (.int p2), .val (.int p3), .val (.int p4), .val (.ref b346), .val (.ref b360), .val (.int q1), .val (.int q2), .val (.int q3), .val (.int (0 : Int32)), .val (.int v786), .val (.int v791), .val (.int v797), .val (.int (0 : Int32)), .unset]
        show Steps p.tables e below (Tg762.setTop (mkF m 238 A0 [])) _
        refine XS.iload Xg762.here hx rfl (hb hby at_238) rfl ?_
        show Steps p.tables e below (Tg762.setTop (mkF m 240 A0 [(.int (0 : Int32))])) _
        refine XS.ifNo Xg762.here hx rfl (hb hby at_240) rfl ((if0 _ _).trans (teq (by decide : (0 : Int32) = (0 : Int32))).2) ?_
        show Steps p.tables e below (Tg762.setTop (mkF m 243 A0 [])) _
        refine XS.iload Xg762.here hx rfl (hb hby at_243) rfl ?_
        show Steps p.tables e below (Tg762.setTop (mkF m 245 A0 [(.int (0 : Int32))])) _
        refine XS.goto Xg762.here hx rfl (pc0 := 245) (pc' := 272) rfl (hb hby at_245) (by decide) (by decide) ?_
        show Steps p.tables e below (Tg762.setTop (mkF m 272 A0 [(.int (0 : Int32))])) _
        let A1 : Array Slot := #[.val (.int p1), .val (.int p2), .val (.int p3), .val (.int p4), .val (.ref b346), .val (.ref b360), .val (.int q1), .val (.int q2), .val (.int q3), .val (.int (0 : Int32)), .val (.int v786), .val (.int v791), .val (.int v797), .val (.int (0 : Int32)), .val (.int (0 : Int32))]
        refine XS.istore Xg762.here hx rfl (hb hby at_272) rfl (l' := A1) rfl ?_
        show Steps p.tables e below (Tg762.setTop (mkF m 274 A1 [])) _
        refine XS.aload Xg762.here hx rfl (hb hby at_274) rfl rfl ?_
        show Steps p.tables e below (Tg762.setTop (mkF m 276 A1 [(.ref b360)])) _
        refine XS.iload Xg762.here hx rfl (hb hby at_276) rfl ?_
        show Steps p.tables e below (Tg762.setTop (mkF m 278 A1 [(.int (0 : Int32)), (.ref b360)])) _
        refine Xg762.aaload hx (j := (0 : Int32)) (v := (.ref b364)) (by rw [eg762]; exact Ar801.1) (State.isArrayOf_alike hZ.alike Ar801.2.1) rfl Ar801.2.2 hin802 hat802 (g := (mkF m 278 A1 [(.int (0 : Int32)), (.ref b360)])) rfl rfl (hb hby at_278) _ ?_
        show Steps p.tables e below (Tg762.setTop (mkF m 279 A1 [(.ref b364)])) _
        refine st803.trans ?_
        show Steps p.tables e below (T803.setTop (mkF m 282 A1 [(.ref (own_sel (0 : Int32) b364 b402 b476 b586))])) _
        refine XS.aload X803.here hx rfl (hb hby at_282) rfl rfl ?_
        show Steps p.tables e below (T803.setTop (mkF m 284 A1 [(.ref b360), (.ref (own_sel (0 : Int32) b364 b402 b476 b586))])) _
        refine XS.iload X803.here hx rfl (hb hby at_284) rfl ?_
        show Steps p.tables e below (T803.setTop (mkF m 286 A1 [(.int (0 : Int32)), (.ref b360), (.ref (own_sel (0 : Int32) b364 b402 b476 b586))])) _
        refine X803.aaload hx (j := (0 : Int32)) (v := (.ref (own_sel (0 : Int32) b364 b402 b476 b586))) (by rw [e803]; exact Ar804.1) (State.isArrayOf_alike hZ.alike Ar804.2.1) rfl Ar804.2.2 hin805 hat805 (g := (mkF m 286 A1 [(.int (0 : Int32)), (.ref b360), (.ref (own_sel (0 : Int32) b364 b402 b476 b586))])) rfl rfl (hb hby at_286) _ ?_
        show Steps p.tables e below (T803.setTop (mkF m 287 A1 [(.ref (own_sel (0 : Int32) b364 b402 b476 b586)), (.ref (own_sel (0 : Int32) b364 b402 b476 b586))])) _
        refine Jvm.RoadKit.acmp (g := (mkF m 287 A1 [(.ref (own_sel (0 : Int32) b364 b402 b476 b586)), (.ref (own_sel (0 : Int32) b364 b402 b476 b586))])) X803 hx rfl rfl rfl (pc0 := 287) (pc' := 290) (same := true) rfl (hb hby at_287) rfl (decide_eq_true rfl) (by decide) (by decide) ?_
        show Steps p.tables e below (T803.setTop (mkF m 290 A1 [])) _
        refine XS.iconst X803.here hx rfl (hb hby at_290) ?_
        show Steps p.tables e below (T803.setTop (mkF m 291 A1 [(.int (1 : Int32))])) _
        refine XS.goto X803.here hx rfl (pc0 := 291) (pc' := 295) rfl (hb hby at_291) (by decide) (by decide) ?_
        exact kt)
    obtain ⟨fs, hr, hrun, hended, hRW⟩ := X803.leaveW hS619 (by rw [e803]; exact hk_783) (v := some (.int (1 : Int32))) (fun h => by rw [Bd.returns] at h; cases h)
    refine ⟨_, _, k806 _ ?_, hrun, hended, _, _, rfl, ?_, hRW.1, hRW.2.1, hRW.2.2.1, hRW.2.2.2.mono (by decide) (by decide)⟩
    · show Steps p.tables e below (T803.setTop (mkF m 295 #[.val (.int p1), .val (.int p2), .val (.int p3), .val (.int p4), .val (.ref b346), .val (.ref b360), .val (.int q1), .val (.int q2), .val (.int q3), .val (.int (0 : Int32)), .val (.int v786), .val (.int v791), .val (.int v797), .val (.int (0 : Int32)), .val (.int (0 : Int32))] [(.int (1 : Int32))])) _
      exact retN X803 hx (t := .boolean) Bd.returns (by simp) (hb hby at_295) hr
    · show Q_rm0 Z p1 p2 p3 p4 h0 n0 _ T803.heap _
      rw [e803]
      exact ⟨rfl, N803⟩
  · have UP : own_Up Z hg762 1 b402 (own_sel v786 b364 b402 b476 b586) := (by rw [eh1]; exact own_up1 Wg762 c1)
    have RG : v786 = (0 : Int32) ∨ v786 = (1 : Int32) ∨ v786 = (2 : Int32) ∨ v786 = (3 : Int32) := (by rw [eh1]; exact own_r1 c1)
    obtain ⟨cl807, Ar807, q807, S807, M807, H807, G807⟩ := id VJ
    have hin808 : ¬ ((1 : Int32) < 0 ∨ cl807.slots.size ≤ ((1 : Int32)).toNatClampNeg) := inb_of S807 ⟨by decide, by decide⟩
    have hat808 : cl807.slots[((1 : Int32)).toNatClampNeg]? = some (.ref b402) := H807.at hin808 rfl
    obtain ⟨cq809, kq809, q809a, q809b, q809c⟩ := isOf hZ eg762 J1.1
    obtain ⟨_, _, ⟨T809, L809, k809, n809⟩, -, X809, ⟨Lc809, hQ809, l809, y809, z809⟩, st809⟩ := Xg762.virtualBack hx (y := (⟨"com/example/arthurs_seat/arthursseat/language/Junction", "head", "()Lcom/example/arthurs_seat/arthursseat/language/Junction;"⟩ : MethodName)) (z := (⟨"com/example/arthurs_seat/arthursseat/language/Junction", "head", "()Lcom/example/arthurs_seat/arthursseat/language/Junction;"⟩ : MethodName)) hown (mvT hZ (hw _ (List.mem_of_getElem? (i := 126) rfl))) (mvT hZ (hw _ (List.mem_of_getElem? (i := 127) rfl))) (notFace_of_selects (args := #[]) (mvT hZ (hw _ (List.mem_of_getElem? (i := 129) rfl)))) (mvT hZ (hw _ (List.mem_of_getElem? (i := 129) rfl))) (mvT hZ (hw _ (List.mem_of_getElem? (i := 128) rfl))) (by decide) (backOf (W := 0) (rm15 l Z a0 hw [] b402 (own_sel v786 b364 b402 b476 b586) 1 hg762 n0 Z_782 UP) hZ (hw _ (List.mem_of_getElem? (i := 130) rfl)) (hw _ (List.mem_of_getElem? (i := 37) rfl)) (by decide) (by decide)) q809a q809c (g := (mkF m 279 #[.val (.int p1), .val (.int p2), .val (.int p3), .val (.int p4), .val (.ref b346), .val (.ref b360), .val (.int q1), .val (.int q2), .val (.int q3), .val (.int (0 : Int32)), .val (.int v786), .val (.int v791), .val (.int v797), .val (.int (1 : Int32)), .val (.int v786)] [(.ref b402)])) rfl (by rw [hml]; rfl) (Steps.refl _) (argsL := []) (rest := []) (lenOf pd_11 rfl) rfl (by show 2 * 0 + _ ≤ _; exact Nat.le_of_eq rfl) (hb hby at_279) (fun _ _ => ⟨rfl, eg762, (by decide : 29 + 0 ≤ _), (by decide : 149 + 0 ≤ _)⟩)
    dsimp only [Pt.U, Pt.locs, Pt.cells, Pt.slots] at X809 l809 y809 z809 st809 hQ809
    subst l809 y809 z809
    obtain ⟨rfl, N809q, e809⟩ := hQ809
    have N809 := Fr.app Ng762 N809q
    obtain ⟨cl810, Ar810, q810, S810, M810, H810, G810⟩ := id VJ
    have hin811 : ¬ (v786 < 0 ∨ cl810.slots.size ≤ (v786).toNatClampNeg) := inb_of S810 (own_in4 RG)
    have hat811 : cl810.slots[(v786).toNatClampNeg]? = some (.ref (own_sel v786 b364 b402 b476 b586)) := H810.at hin811 (own_get RG)
    have k812 : ∀ t, Steps p.tables e below (T809.setTop (mkF m 295 #[.val (.int p1), .val (.int p2), .val (.int p3), .val (.int p4), .val (.ref b346), .val (.ref b360), .val (.int q1), .val (.int q2), .val (.int q3), .val (.int (0 : Int32)), .val (.int v786), .val (.int v791), .val (.int v797), .val (.int (1 : Int32)), .val (.int v786)] [(.int (1 : Int32))])) t → Steps p.tables e below (s₁.setTop (entryFrame m #[(.int p1), (.int p2), (.int p3), (.int p4)] maxLocals)) t := fun t kt => k800 t (by
        let A0 : Array Slot := #[.val (.int p1), .val (.int p2), .val (.int p3), .val (.int p4), .val (.ref b346), .val (.ref b360), .val (.int q1), .val (.int q2), .val (.int q3), .val (.int (0 : Int32)), .val (.int v786), .val (.int v791), .val (.int v797), .val (.int (1 : Int32)), .unset]
        show Steps p.tables e below (Tg762.setTop (mkF m 238 A0 [])) _
        refine XS.iload Xg762.here hx rfl (hb hby at_238) rfl ?_
        show Steps p.tables e below (Tg762.setTop (mkF m 240 A0 [(.int (1 : Int32))])) _
        refine XS.ifYes Xg762.here hx rfl (pc0 := 240) (pc' := 248) rfl (hb hby at_240) rfl ((if0 _ _).trans (feq (by decide : ¬ ((1 : Int32) = (0 : Int32)))).2) (by decide) (by decide) ?_
        show Steps p.tables e below (Tg762.setTop (mkF m 248 A0 [])) _
        refine XS.iload Xg762.here hx rfl (hb hby at_248) rfl ?_
        show Steps p.tables e below (Tg762.setTop (mkF m 250 A0 [(.int (1 : Int32))])) _
        refine XS.iconst Xg762.here hx rfl (hb hby at_250) ?_
        show Steps p.tables e below (Tg762.setTop (mkF m 251 A0 [(.int (1 : Int32)), (.int (1 : Int32))])) _
        refine XS.icmpNo Xg762.here hx rfl (hb hby at_251) rfl (teq (by decide : (1 : Int32) = (1 : Int32))).2 ?_
        show Steps p.tables e below (Tg762.setTop (mkF m 254 A0 [])) _
        refine XS.iload Xg762.here hx rfl (hb hby at_254) rfl ?_
        show Steps p.tables e below (Tg762.setTop (mkF m 256 A0 [(.int v786)])) _
        refine XS.goto Xg762.here hx rfl (pc0 := 256) (pc' := 272) rfl (hb hby at_256) (by decide) (by decide) ?_
        show Steps p.tables e below (Tg762.setTop (mkF m 272 A0 [(.int v786)])) _
        let A1 : Array Slot := #[.val (.int p1), .val (.int p2), .val (.int p3), .val (.int p4), .val (.ref b346), .val (.ref b360), .val (.int q1), .val (.int q2), .val (.int q3), .val (.int (0 : Int32)), .val (.int v786), .val (.int v791), .val (.int v797), .val (.int (1 : Int32)), .val (.int v786)]
        refine XS.istore Xg762.here hx rfl (hb hby at_272) rfl (l' := A1) rfl ?_
        show Steps p.tables e below (Tg762.setTop (mkF m 274 A1 [])) _
        refine XS.aload Xg762.here hx rfl (hb hby at_274) rfl rfl ?_
        show Steps p.tables e below (Tg762.setTop (mkF m 276 A1 [(.ref b360)])) _
        refine XS.iload Xg762.here hx rfl (hb hby at_276) rfl ?_
        show Steps p.tables e below (Tg762.setTop (mkF m 278 A1 [(.int (1 : Int32)), (.ref b360)])) _
        refine Xg762.aaload hx (j := (1 : Int32)) (v := (.ref b402)) (by rw [eg762]; exact Ar807.1) (State.isArrayOf_alike hZ.alike Ar807.2.1) rfl Ar807.2.2 hin808 hat808 (g := (mkF m 278 A1 [(.int (1 : Int32)), (.ref b360)])) rfl rfl (hb hby at_278) _ ?_
        show Steps p.tables e below (Tg762.setTop (mkF m 279 A1 [(.ref b402)])) _
        refine st809.trans ?_
        show Steps p.tables e below (T809.setTop (mkF m 282 A1 [(.ref (own_sel v786 b364 b402 b476 b586))])) _
        refine XS.aload X809.here hx rfl (hb hby at_282) rfl rfl ?_
        show Steps p.tables e below (T809.setTop (mkF m 284 A1 [(.ref b360), (.ref (own_sel v786 b364 b402 b476 b586))])) _
        refine XS.iload X809.here hx rfl (hb hby at_284) rfl ?_
        show Steps p.tables e below (T809.setTop (mkF m 286 A1 [(.int v786), (.ref b360), (.ref (own_sel v786 b364 b402 b476 b586))])) _
        refine X809.aaload hx (j := v786) (v := (.ref (own_sel v786 b364 b402 b476 b586))) (by rw [e809]; exact Ar810.1) (State.isArrayOf_alike hZ.alike Ar810.2.1) rfl Ar810.2.2 hin811 hat811 (g := (mkF m 286 A1 [(.int v786), (.ref b360), (.ref (own_sel v786 b364 b402 b476 b586))])) rfl rfl (hb hby at_286) _ ?_
        show Steps p.tables e below (T809.setTop (mkF m 287 A1 [(.ref (own_sel v786 b364 b402 b476 b586)), (.ref (own_sel v786 b364 b402 b476 b586))])) _
        refine Jvm.RoadKit.acmp (g := (mkF m 287 A1 [(.ref (own_sel v786 b364 b402 b476 b586)), (.ref (own_sel v786 b364 b402 b476 b586))])) X809 hx rfl rfl rfl (pc0 := 287) (pc' := 290) (same := true) rfl (hb hby at_287) rfl (decide_eq_true rfl) (by decide) (by decide) ?_
        show Steps p.tables e below (T809.setTop (mkF m 290 A1 [])) _
        refine XS.iconst X809.here hx rfl (hb hby at_290) ?_
        show Steps p.tables e below (T809.setTop (mkF m 291 A1 [(.int (1 : Int32))])) _
        refine XS.goto X809.here hx rfl (pc0 := 291) (pc' := 295) rfl (hb hby at_291) (by decide) (by decide) ?_
        exact kt)
    obtain ⟨fs, hr, hrun, hended, hRW⟩ := X809.leaveW hS619 (by rw [e809]; exact hk_783) (v := some (.int (1 : Int32))) (fun h => by rw [Bd.returns] at h; cases h)
    refine ⟨_, _, k812 _ ?_, hrun, hended, _, _, rfl, ?_, hRW.1, hRW.2.1, hRW.2.2.1, hRW.2.2.2.mono (by decide) (by decide)⟩
    · show Steps p.tables e below (T809.setTop (mkF m 295 #[.val (.int p1), .val (.int p2), .val (.int p3), .val (.int p4), .val (.ref b346), .val (.ref b360), .val (.int q1), .val (.int q2), .val (.int q3), .val (.int (0 : Int32)), .val (.int v786), .val (.int v791), .val (.int v797), .val (.int (1 : Int32)), .val (.int v786)] [(.int (1 : Int32))])) _
      exact retN X809 hx (t := .boolean) Bd.returns (by simp) (hb hby at_295) hr
    · show Q_rm0 Z p1 p2 p3 p4 h0 n0 _ T809.heap _
      rw [e809]
      exact ⟨rfl, N809⟩
  · have UP : own_Up Z hg762 2 b476 (own_sel v791 b364 b402 b476 b586) := (by rw [eh2]; exact own_up2 Wg762 c1 c2)
    have RG : v791 = (0 : Int32) ∨ v791 = (1 : Int32) ∨ v791 = (2 : Int32) ∨ v791 = (3 : Int32) := (by rw [eh2]; exact own_r2 c1 c2)
    obtain ⟨cl813, Ar813, q813, S813, M813, H813, G813⟩ := id VJ
    have hin814 : ¬ ((2 : Int32) < 0 ∨ cl813.slots.size ≤ ((2 : Int32)).toNatClampNeg) := inb_of S813 ⟨by decide, by decide⟩
    have hat814 : cl813.slots[((2 : Int32)).toNatClampNeg]? = some (.ref b476) := H813.at hin814 rfl
    obtain ⟨cq815, kq815, q815a, q815b, q815c⟩ := isOf hZ eg762 J2.1
    obtain ⟨_, _, ⟨T815, L815, k815, n815⟩, -, X815, ⟨Lc815, hQ815, l815, y815, z815⟩, st815⟩ := Xg762.virtualBack hx (y := (⟨"com/example/arthurs_seat/arthursseat/language/Junction", "head", "()Lcom/example/arthurs_seat/arthursseat/language/Junction;"⟩ : MethodName)) (z := (⟨"com/example/arthurs_seat/arthursseat/language/Junction", "head", "()Lcom/example/arthurs_seat/arthursseat/language/Junction;"⟩ : MethodName)) hown (mvT hZ (hw _ (List.mem_of_getElem? (i := 126) rfl))) (mvT hZ (hw _ (List.mem_of_getElem? (i := 127) rfl))) (notFace_of_selects (args := #[]) (mvT hZ (hw _ (List.mem_of_getElem? (i := 129) rfl)))) (mvT hZ (hw _ (List.mem_of_getElem? (i := 129) rfl))) (mvT hZ (hw _ (List.mem_of_getElem? (i := 128) rfl))) (by decide) (backOf (W := 0) (rm15 l Z a0 hw [] b476 (own_sel v791 b364 b402 b476 b586) 2 hg762 n0 Z_782 UP) hZ (hw _ (List.mem_of_getElem? (i := 130) rfl)) (hw _ (List.mem_of_getElem? (i := 37) rfl)) (by decide) (by decide)) q815a q815c (g := (mkF m 279 #[.val (.int p1), .val (.int p2), .val (.int p3), .val (.int p4), .val (.ref b346), .val (.ref b360), .val (.int q1), .val (.int q2), .val (.int q3), .val (.int (0 : Int32)), .val (.int v786), .val (.int v791), .val (.int v797), .val (.int (2 : Int32)), .val (.int v791)] [(.ref b476)])) rfl (by rw [hml]; rfl) (Steps.refl _) (argsL := []) (rest := []) (lenOf pd_11 rfl) rfl (by show 2 * 0 + _ ≤ _; exact Nat.le_of_eq rfl) (hb hby at_279) (fun _ _ => ⟨rfl, eg762, (by decide : 29 + 0 ≤ _), (by decide : 149 + 0 ≤ _)⟩)
    dsimp only [Pt.U, Pt.locs, Pt.cells, Pt.slots] at X815 l815 y815 z815 st815 hQ815
    subst l815 y815 z815
    obtain ⟨rfl, N815q, e815⟩ := hQ815
    have N815 := Fr.app Ng762 N815q
    obtain ⟨cl816, Ar816, q816, S816, M816, H816, G816⟩ := id VJ
    have hin817 : ¬ (v791 < 0 ∨ cl816.slots.size ≤ (v791).toNatClampNeg) := inb_of S816 (own_in4 RG)
    have hat817 : cl816.slots[(v791).toNatClampNeg]? = some (.ref (own_sel v791 b364 b402 b476 b586)) := H816.at hin817 (own_get RG)
    have k818 : ∀ t, Steps p.tables e below (T815.setTop (mkF m 295 #[.val (.int p1), .val (.int p2), .val (.int p3), .val (.int p4), .val (.ref b346), .val (.ref b360), .val (.int q1), .val (.int q2), .val (.int q3), .val (.int (0 : Int32)), .val (.int v786), .val (.int v791), .val (.int v797), .val (.int (2 : Int32)), .val (.int v791)] [(.int (1 : Int32))])) t → Steps p.tables e below (s₁.setTop (entryFrame m #[(.int p1), (.int p2), (.int p3), (.int p4)] maxLocals)) t := fun t kt => k800 t (by
        let A0 : Array Slot := #[.val (.int p1), .val (.int p2), .val (.int p3), .val (.int p4), .val (.ref b346), .val (.ref b360), .val (.int q1), .val (.int q2), .val (.int q3), .val (.int (0 : Int32)), .val (.int v786), .val (.int v791), .val (.int v797), .val (.int (2 : Int32)), .unset]
        show Steps p.tables e below (Tg762.setTop (mkF m 238 A0 [])) _
        refine XS.iload Xg762.here hx rfl (hb hby at_238) rfl ?_
        show Steps p.tables e below (Tg762.setTop (mkF m 240 A0 [(.int (2 : Int32))])) _
        refine XS.ifYes Xg762.here hx rfl (pc0 := 240) (pc' := 248) rfl (hb hby at_240) rfl ((if0 _ _).trans (feq (by decide : ¬ ((2 : Int32) = (0 : Int32)))).2) (by decide) (by decide) ?_
        show Steps p.tables e below (Tg762.setTop (mkF m 248 A0 [])) _
        refine XS.iload Xg762.here hx rfl (hb hby at_248) rfl ?_
        show Steps p.tables e below (Tg762.setTop (mkF m 250 A0 [(.int (2 : Int32))])) _
        refine XS.iconst Xg762.here hx rfl (hb hby at_250) ?_
        show Steps p.tables e below (Tg762.setTop (mkF m 251 A0 [(.int (1 : Int32)), (.int (2 : Int32))])) _
        refine XS.icmpYes Xg762.here hx rfl (pc0 := 251) (pc' := 259) rfl (hb hby at_251) rfl (feq (by decide : ¬ ((2 : Int32) = (1 : Int32)))).2 (by decide) (by decide) ?_
        show Steps p.tables e below (Tg762.setTop (mkF m 259 A0 [])) _
        refine XS.iload Xg762.here hx rfl (hb hby at_259) rfl ?_
        show Steps p.tables e below (Tg762.setTop (mkF m 261 A0 [(.int (2 : Int32))])) _
        refine XS.iconst Xg762.here hx rfl (hb hby at_261) ?_
        show Steps p.tables e below (Tg762.setTop (mkF m 262 A0 [(.int (2 : Int32)), (.int (2 : Int32))])) _
        refine XS.icmpNo Xg762.here hx rfl (hb hby at_262) rfl (teq (by decide : (2 : Int32) = (2 : Int32))).2 ?_
        show Steps p.tables e below (Tg762.setTop (mkF m 265 A0 [])) _
        refine XS.iload Xg762.here hx rfl (hb hby at_265) rfl ?_
        show Steps p.tables e below (Tg762.setTop (mkF m 267 A0 [(.int v791)])) _
        refine XS.goto Xg762.here hx rfl (pc0 := 267) (pc' := 272) rfl (hb hby at_267) (by decide) (by decide) ?_
        show Steps p.tables e below (Tg762.setTop (mkF m 272 A0 [(.int v791)])) _
        let A1 : Array Slot := #[.val (.int p1), .val (.int p2), .val (.int p3), .val (.int p4), .val (.ref b346), .val (.ref b360), .val (.int q1), .val (.int q2), .val (.int q3), .val (.int (0 : Int32)), .val (.int v786), .val (.int v791), .val (.int v797), .val (.int (2 : Int32)), .val (.int v791)]
        refine XS.istore Xg762.here hx rfl (hb hby at_272) rfl (l' := A1) rfl ?_
        show Steps p.tables e below (Tg762.setTop (mkF m 274 A1 [])) _
        refine XS.aload Xg762.here hx rfl (hb hby at_274) rfl rfl ?_
        show Steps p.tables e below (Tg762.setTop (mkF m 276 A1 [(.ref b360)])) _
        refine XS.iload Xg762.here hx rfl (hb hby at_276) rfl ?_
        show Steps p.tables e below (Tg762.setTop (mkF m 278 A1 [(.int (2 : Int32)), (.ref b360)])) _
        refine Xg762.aaload hx (j := (2 : Int32)) (v := (.ref b476)) (by rw [eg762]; exact Ar813.1) (State.isArrayOf_alike hZ.alike Ar813.2.1) rfl Ar813.2.2 hin814 hat814 (g := (mkF m 278 A1 [(.int (2 : Int32)), (.ref b360)])) rfl rfl (hb hby at_278) _ ?_
        show Steps p.tables e below (Tg762.setTop (mkF m 279 A1 [(.ref b476)])) _
        refine st815.trans ?_
        show Steps p.tables e below (T815.setTop (mkF m 282 A1 [(.ref (own_sel v791 b364 b402 b476 b586))])) _
        refine XS.aload X815.here hx rfl (hb hby at_282) rfl rfl ?_
        show Steps p.tables e below (T815.setTop (mkF m 284 A1 [(.ref b360), (.ref (own_sel v791 b364 b402 b476 b586))])) _
        refine XS.iload X815.here hx rfl (hb hby at_284) rfl ?_
        show Steps p.tables e below (T815.setTop (mkF m 286 A1 [(.int v791), (.ref b360), (.ref (own_sel v791 b364 b402 b476 b586))])) _
        refine X815.aaload hx (j := v791) (v := (.ref (own_sel v791 b364 b402 b476 b586))) (by rw [e815]; exact Ar816.1) (State.isArrayOf_alike hZ.alike Ar816.2.1) rfl Ar816.2.2 hin817 hat817 (g := (mkF m 286 A1 [(.int v791), (.ref b360), (.ref (own_sel v791 b364 b402 b476 b586))])) rfl rfl (hb hby at_286) _ ?_
        show Steps p.tables e below (T815.setTop (mkF m 287 A1 [(.ref (own_sel v791 b364 b402 b476 b586)), (.ref (own_sel v791 b364 b402 b476 b586))])) _
        refine Jvm.RoadKit.acmp (g := (mkF m 287 A1 [(.ref (own_sel v791 b364 b402 b476 b586)), (.ref (own_sel v791 b364 b402 b476 b586))])) X815 hx rfl rfl rfl (pc0 := 287) (pc' := 290) (same := true) rfl (hb hby at_287) rfl (decide_eq_true rfl) (by decide) (by decide) ?_
        show Steps p.tables e below (T815.setTop (mkF m 290 A1 [])) _
        refine XS.iconst X815.here hx rfl (hb hby at_290) ?_
        show Steps p.tables e below (T815.setTop (mkF m 291 A1 [(.int (1 : Int32))])) _
        refine XS.goto X815.here hx rfl (pc0 := 291) (pc' := 295) rfl (hb hby at_291) (by decide) (by decide) ?_
        exact kt)
    obtain ⟨fs, hr, hrun, hended, hRW⟩ := X815.leaveW hS619 (by rw [e815]; exact hk_783) (v := some (.int (1 : Int32))) (fun h => by rw [Bd.returns] at h; cases h)
    refine ⟨_, _, k818 _ ?_, hrun, hended, _, _, rfl, ?_, hRW.1, hRW.2.1, hRW.2.2.1, hRW.2.2.2.mono (by decide) (by decide)⟩
    · show Steps p.tables e below (T815.setTop (mkF m 295 #[.val (.int p1), .val (.int p2), .val (.int p3), .val (.int p4), .val (.ref b346), .val (.ref b360), .val (.int q1), .val (.int q2), .val (.int q3), .val (.int (0 : Int32)), .val (.int v786), .val (.int v791), .val (.int v797), .val (.int (2 : Int32)), .val (.int v791)] [(.int (1 : Int32))])) _
      exact retN X815 hx (t := .boolean) Bd.returns (by simp) (hb hby at_295) hr
    · show Q_rm0 Z p1 p2 p3 p4 h0 n0 _ T815.heap _
      rw [e815]
      exact ⟨rfl, N815⟩
  · have UP : own_Up Z hg762 3 b586 (own_sel v797 b364 b402 b476 b586) := (by rw [eh3]; exact own_up3 Wg762 c1 c2 c3)
    have RG : v797 = (0 : Int32) ∨ v797 = (1 : Int32) ∨ v797 = (2 : Int32) ∨ v797 = (3 : Int32) := (by rw [eh3]; exact own_r3 c1 c2 c3)
    obtain ⟨cl819, Ar819, q819, S819, M819, H819, G819⟩ := id VJ
    have hin820 : ¬ ((3 : Int32) < 0 ∨ cl819.slots.size ≤ ((3 : Int32)).toNatClampNeg) := inb_of S819 ⟨by decide, by decide⟩
    have hat820 : cl819.slots[((3 : Int32)).toNatClampNeg]? = some (.ref b586) := H819.at hin820 rfl
    obtain ⟨cq821, kq821, q821a, q821b, q821c⟩ := isOf hZ eg762 J3.1
    obtain ⟨_, _, ⟨T821, L821, k821, n821⟩, -, X821, ⟨Lc821, hQ821, l821, y821, z821⟩, st821⟩ := Xg762.virtualBack hx (y := (⟨"com/example/arthurs_seat/arthursseat/language/Junction", "head", "()Lcom/example/arthurs_seat/arthursseat/language/Junction;"⟩ : MethodName)) (z := (⟨"com/example/arthurs_seat/arthursseat/language/Junction", "head", "()Lcom/example/arthurs_seat/arthursseat/language/Junction;"⟩ : MethodName)) hown (mvT hZ (hw _ (List.mem_of_getElem? (i := 126) rfl))) (mvT hZ (hw _ (List.mem_of_getElem? (i := 127) rfl))) (notFace_of_selects (args := #[]) (mvT hZ (hw _ (List.mem_of_getElem? (i := 129) rfl)))) (mvT hZ (hw _ (List.mem_of_getElem? (i := 129) rfl))) (mvT hZ (hw _ (List.mem_of_getElem? (i := 128) rfl))) (by decide) (backOf (W := 0) (rm15 l Z a0 hw [] b586 (own_sel v797 b364 b402 b476 b586) 3 hg762 n0 Z_782 UP) hZ (hw _ (List.mem_of_getElem? (i := 130) rfl)) (hw _ (List.mem_of_getElem? (i := 37) rfl)) (by decide) (by decide)) q821a q821c (g := (mkF m 279 #[.val (.int p1), .val (.int p2), .val (.int p3), .val (.int p4), .val (.ref b346), .val (.ref b360), .val (.int q1), .val (.int q2), .val (.int q3), .val (.int (0 : Int32)), .val (.int v786), .val (.int v791), .val (.int v797), .val (.int (3 : Int32)), .val (.int v797)] [(.ref b586)])) rfl (by rw [hml]; rfl) (Steps.refl _) (argsL := []) (rest := []) (lenOf pd_11 rfl) rfl (by show 2 * 0 + _ ≤ _; exact Nat.le_of_eq rfl) (hb hby at_279) (fun _ _ => ⟨rfl, eg762, (by decide : 29 + 0 ≤ _), (by decide : 149 + 0 ≤ _)⟩)
    dsimp only [Pt.U, Pt.locs, Pt.cells, Pt.slots] at X821 l821 y821 z821 st821 hQ821
    subst l821 y821 z821
    obtain ⟨rfl, N821q, e821⟩ := hQ821
    have N821 := Fr.app Ng762 N821q
    obtain ⟨cl822, Ar822, q822, S822, M822, H822, G822⟩ := id VJ
    have hin823 : ¬ (v797 < 0 ∨ cl822.slots.size ≤ (v797).toNatClampNeg) := inb_of S822 (own_in4 RG)
    have hat823 : cl822.slots[(v797).toNatClampNeg]? = some (.ref (own_sel v797 b364 b402 b476 b586)) := H822.at hin823 (own_get RG)
    have k824 : ∀ t, Steps p.tables e below (T821.setTop (mkF m 295 #[.val (.int p1), .val (.int p2), .val (.int p3), .val (.int p4), .val (.ref b346), .val (.ref b360), .val (.int q1), .val (.int q2), .val (.int q3), .val (.int (0 : Int32)), .val (.int v786), .val (.int v791), .val (.int v797), .val (.int (3 : Int32)), .val (.int v797)] [(.int (1 : Int32))])) t → Steps p.tables e below (s₁.setTop (entryFrame m #[(.int p1), (.int p2), (.int p3), (.int p4)] maxLocals)) t := fun t kt => k800 t (by
        let A0 : Array Slot := #[.val (.int p1), .val (.int p2), .val (.int p3), .val (.int p4), .val (.ref b346), .val (.ref b360), .val (.int q1), .val (.int q2), .val (.int q3), .val (.int (0 : Int32)), .val (.int v786), .val (.int v791), .val (.int v797), .val (.int (3 : Int32)), .unset]
        show Steps p.tables e below (Tg762.setTop (mkF m 238 A0 [])) _
        refine XS.iload Xg762.here hx rfl (hb hby at_238) rfl ?_
        show Steps p.tables e below (Tg762.setTop (mkF m 240 A0 [(.int (3 : Int32))])) _
        refine XS.ifYes Xg762.here hx rfl (pc0 := 240) (pc' := 248) rfl (hb hby at_240) rfl ((if0 _ _).trans (feq (by decide : ¬ ((3 : Int32) = (0 : Int32)))).2) (by decide) (by decide) ?_
        show Steps p.tables e below (Tg762.setTop (mkF m 248 A0 [])) _
        refine XS.iload Xg762.here hx rfl (hb hby at_248) rfl ?_
        show Steps p.tables e below (Tg762.setTop (mkF m 250 A0 [(.int (3 : Int32))])) _
        refine XS.iconst Xg762.here hx rfl (hb hby at_250) ?_
        show Steps p.tables e below (Tg762.setTop (mkF m 251 A0 [(.int (1 : Int32)), (.int (3 : Int32))])) _
        refine XS.icmpYes Xg762.here hx rfl (pc0 := 251) (pc' := 259) rfl (hb hby at_251) rfl (feq (by decide : ¬ ((3 : Int32) = (1 : Int32)))).2 (by decide) (by decide) ?_
        show Steps p.tables e below (Tg762.setTop (mkF m 259 A0 [])) _
        refine XS.iload Xg762.here hx rfl (hb hby at_259) rfl ?_
        show Steps p.tables e below (Tg762.setTop (mkF m 261 A0 [(.int (3 : Int32))])) _
        refine XS.iconst Xg762.here hx rfl (hb hby at_261) ?_
        show Steps p.tables e below (Tg762.setTop (mkF m 262 A0 [(.int (2 : Int32)), (.int (3 : Int32))])) _
        refine XS.icmpYes Xg762.here hx rfl (pc0 := 262) (pc' := 270) rfl (hb hby at_262) rfl (feq (by decide : ¬ ((3 : Int32) = (2 : Int32)))).2 (by decide) (by decide) ?_
        show Steps p.tables e below (Tg762.setTop (mkF m 270 A0 [])) _
        refine XS.iload Xg762.here hx rfl (hb hby at_270) rfl ?_
        show Steps p.tables e below (Tg762.setTop (mkF m 272 A0 [(.int v797)])) _
        let A1 : Array Slot := #[.val (.int p1), .val (.int p2), .val (.int p3), .val (.int p4), .val (.ref b346), .val (.ref b360), .val (.int q1), .val (.int q2), .val (.int q3), .val (.int (0 : Int32)), .val (.int v786), .val (.int v791), .val (.int v797), .val (.int (3 : Int32)), .val (.int v797)]
        refine XS.istore Xg762.here hx rfl (hb hby at_272) rfl (l' := A1) rfl ?_
        show Steps p.tables e below (Tg762.setTop (mkF m 274 A1 [])) _
        refine XS.aload Xg762.here hx rfl (hb hby at_274) rfl rfl ?_
        show Steps p.tables e below (Tg762.setTop (mkF m 276 A1 [(.ref b360)])) _
        refine XS.iload Xg762.here hx rfl (hb hby at_276) rfl ?_
        show Steps p.tables e below (Tg762.setTop (mkF m 278 A1 [(.int (3 : Int32)), (.ref b360)])) _
        refine Xg762.aaload hx (j := (3 : Int32)) (v := (.ref b586)) (by rw [eg762]; exact Ar819.1) (State.isArrayOf_alike hZ.alike Ar819.2.1) rfl Ar819.2.2 hin820 hat820 (g := (mkF m 278 A1 [(.int (3 : Int32)), (.ref b360)])) rfl rfl (hb hby at_278) _ ?_
        show Steps p.tables e below (Tg762.setTop (mkF m 279 A1 [(.ref b586)])) _
        refine st821.trans ?_
        show Steps p.tables e below (T821.setTop (mkF m 282 A1 [(.ref (own_sel v797 b364 b402 b476 b586))])) _
        refine XS.aload X821.here hx rfl (hb hby at_282) rfl rfl ?_
        show Steps p.tables e below (T821.setTop (mkF m 284 A1 [(.ref b360), (.ref (own_sel v797 b364 b402 b476 b586))])) _
        refine XS.iload X821.here hx rfl (hb hby at_284) rfl ?_
        show Steps p.tables e below (T821.setTop (mkF m 286 A1 [(.int v797), (.ref b360), (.ref (own_sel v797 b364 b402 b476 b586))])) _
        refine X821.aaload hx (j := v797) (v := (.ref (own_sel v797 b364 b402 b476 b586))) (by rw [e821]; exact Ar822.1) (State.isArrayOf_alike hZ.alike Ar822.2.1) rfl Ar822.2.2 hin823 hat823 (g := (mkF m 286 A1 [(.int v797), (.ref b360), (.ref (own_sel v797 b364 b402 b476 b586))])) rfl rfl (hb hby at_286) _ ?_
        show Steps p.tables e below (T821.setTop (mkF m 287 A1 [(.ref (own_sel v797 b364 b402 b476 b586)), (.ref (own_sel v797 b364 b402 b476 b586))])) _
        refine Jvm.RoadKit.acmp (g := (mkF m 287 A1 [(.ref (own_sel v797 b364 b402 b476 b586)), (.ref (own_sel v797 b364 b402 b476 b586))])) X821 hx rfl rfl rfl (pc0 := 287) (pc' := 290) (same := true) rfl (hb hby at_287) rfl (decide_eq_true rfl) (by decide) (by decide) ?_
        show Steps p.tables e below (T821.setTop (mkF m 290 A1 [])) _
        refine XS.iconst X821.here hx rfl (hb hby at_290) ?_
        show Steps p.tables e below (T821.setTop (mkF m 291 A1 [(.int (1 : Int32))])) _
        refine XS.goto X821.here hx rfl (pc0 := 291) (pc' := 295) rfl (hb hby at_291) (by decide) (by decide) ?_
        exact kt)
    obtain ⟨fs, hr, hrun, hended, hRW⟩ := X821.leaveW hS619 (by rw [e821]; exact hk_783) (v := some (.int (1 : Int32))) (fun h => by rw [Bd.returns] at h; cases h)
    refine ⟨_, _, k824 _ ?_, hrun, hended, _, _, rfl, ?_, hRW.1, hRW.2.1, hRW.2.2.1, hRW.2.2.2.mono (by decide) (by decide)⟩
    · show Steps p.tables e below (T821.setTop (mkF m 295 #[.val (.int p1), .val (.int p2), .val (.int p3), .val (.int p4), .val (.ref b346), .val (.ref b360), .val (.int q1), .val (.int q2), .val (.int q3), .val (.int (0 : Int32)), .val (.int v786), .val (.int v791), .val (.int v797), .val (.int (3 : Int32)), .val (.int v797)] [(.int (1 : Int32))])) _
      exact retN X821 hx (t := .boolean) Bd.returns (by simp) (hb hby at_295) hr
    · show Q_rm0 Z p1 p2 p3 p4 h0 n0 _ T821.heap _
      rw [e821]
      exact ⟨rfl, N821⟩
theorem own_len {Z : State} {args : Array Value} {t : Term} {z : Int32} (h : (Term.length t).eval args Z none [] Z = some (.int z)) : ∃ a c, t.eval args Z none [] Z = some (.ref a) ∧ Z.arrayAt? a = some c ∧ c.slots.size < 2 ^ 31 ∧ c.slots.size.toInt32 = z := by
  obtain ⟨a, c, e, hc, hl, hv⟩ := Jvm.Lib.length_spec h
  exact ⟨a, c, e, hc, hl, by injection hv with q; exact q.symm⟩
set_option maxRecDepth 65536 in
set_option maxHeartbeats 40000000 in
theorem comes_1 {Post : Tables → Env → Array Value → State → Outcome → State → Prop} (hpost : ∀ tb e args s v u, (limb_1_1.after args s (.returned v) u = true ∧ limb_1_2.after args s (.returned v) u = true ∧ True) → ReturnedEndW s (.returned v) u (Jvm.fieldLocs frame_1_writes args s ++ Jvm.arrayLocs frame_1_arrays args s ++ Jvm.staticLocs frame_1_statics s) 56 6464 → Post tb e args s (.returned v) u) :
    ArmFor flags0 classFile x code maxLocals ret World_1 tables_1 room_1 Calls_1 rest_1 Pre_1 Post := by
  intro l hfl _ _ p e ha hc hk s m args below hf hA hF happ hP
  obtain ⟨hcalls, hrest, hpre⟩ := hP
  obtain ⟨-, -, -, hnamed, -, -, -, hat⟩ := (Spec.applies_iff hf).mp happ
  obtain ⟨hg, hn⟩ := and_e (Cond.before_iff.mp (show (Jvm.Cond.and given_1 narrow_1).before args s = true from hpre))
  obtain ⟨hcnt, hg0⟩ := and_e hg
  obtain ⟨ha0, hg1⟩ := and_e hg0
  obtain ⟨ha1, hg2⟩ := and_e hg1
  obtain ⟨ha2, hg3⟩ := and_e hg2
  obtain ⟨w0, w1, w2, w3, rfl⟩ : ∃ w0 w1 w2 w3 : Value, args = #[w0, w1, w2, w3] := by
    have hs : args.size = 4 := by simpa [Cond.value, given_1] using hcnt
    obtain ⟨L⟩ := args
    match L, hs with
    | [w0, w1, w2, w3], _ => exact ⟨w0, w1, w2, w3, rfl⟩
  have hw := fun d (hd : d ∈ tables_1) => atoms_spec (ws := Jvm.Cond.code x code maxLocals ret :: tables_1) hat d (List.mem_cons_of_mem _ hd)
  have hfit : Fit s := fun {y c} hc i hi => by
    obtain ⟨ha, rfl⟩ := Array.getElem?_eq_some_iff.mp hc
    have q := List.all_eq_true.mp ((Array.all_eq_true_iff_forall_mem.mp hF) _ (Array.getElem_mem ha)) i (List.mem_range.mpr hi)
    simpa [Array.getElem?_eq_getElem hi] using q
  obtain ⟨hsets, hown0⟩ := atoms_of _ (rest_1_c_eq ▸ (show rest_1_c.before _ s = true from hrest))
  obtain ⟨i0, ei0⟩ := is_v ha0
  obtain rfl : w0 = (.int i0) := Option.some.inj ei0
  obtain ⟨i1, ei1⟩ := is_v ha1
  obtain rfl : w1 = (.int i1) := Option.some.inj ei1
  obtain ⟨i2, ei2⟩ := is_v ha2
  obtain rfl : w2 = (.int i2) := Option.some.inj ei2
  obtain ⟨i3, ei3⟩ := is_v hg3
  obtain rfl : w3 = (.int i3) := Option.some.inj ei3
  obtain ⟨dfl, eC⟩ := arr_v (Cond.before_iff.mp (hsets _ (List.mem_of_getElem? (i := 6) rfl)))
  have SD := Sta.start eC (Or.inr ⟨(hw _ (List.mem_of_getElem? (i := 45) rfl)), (hsets _ (List.mem_of_getElem? (i := 2) rfl))⟩)
  obtain ⟨cd, DA⟩ := Arr.start eC (Cond.before_iff.mp (hsets _ (List.mem_of_getElem? (i := 6) rfl)))
  have eL := eqv_i (Z := s) (Term.int_eval (0 : Int32)) (Cond.before_iff.mp (hsets _ (List.mem_of_getElem? (i := 8) rfl)))
  obtain ⟨dfl', cd', eC', hcc, hL⟩ := own_len eL
  cases eC.symm.trans eC'
  cases (DA.fin (Vm.Alike.refl _)).symm.trans hcc
  have DS : cd.slots.size = (0 : Int32).toNatClampNeg := by rw [← hL.2]; simp only [Int32.toNatClampNeg, len_toInt hL.1]; rfl
  have hheld : Jvm.Lit.constHeld s "com/example/arthurs_seat/arthursseat/language/JunctionHeadPinLaw" 9 := hcalls.1 ("com/example/arthurs_seat/arthursseat/language/JunctionHeadPinLaw", 9) (by simp [consts_1])
  have hcw : Jvm.Lit.compactW.before _ s = true := (hsets _ (List.mem_of_getElem? (i := 11) rfl))
  obtain ⟨n, o, h1, h2, h3, _, L, rfl, ⟨rfl, N⟩, hq⟩ := rm0 l s _ hw tables_1 i0 i1 i2 i3 dfl cd s.heap s.heap.size (Nat.le_refl _) (Old.start s) SD DA DS rfl hheld hcw p e ha hc hk s m _ below hf ((Spec.applies_iff_loose hf).mp happ).1 ⟨rfl, rfl, rfl⟩ trivial
  refine ⟨n, _, h1, h2, h3, hpost _ _ _ _ _ _ ⟨Cond.after_iff.mpr rfl, Cond.after_iff.mpr (eq_i res_at (Term.int_eval (1)) rfl), trivial⟩ ⟨hq.1, hq.2.1, hq.2.2.1, (hq.2.2.2.sift fun y hy => Or.inr (N y hy)).mono (by decide) (by decide)⟩⟩
theorem main_1_1 : Claimed_1_1 := comes_1 fun _ _ _ _ _ _ h hF => ⟨h.1, hF⟩
theorem main_1_2 : Claimed_1_2 := comes_1 fun _ _ _ _ _ _ h hF => ⟨h.2.1, hF⟩
end Jvm.Pilot.@@N@@
namespace Jvm.Pilot.@@N@@
open Jvm Jvm.ClassFile Sem Op Lib Jvm.Free Jvm.Stand Jvm.Pilot.@@N@@.Jvm.D
/-! MADE BY PROGRAM (witnessworld.py) out of the Statement's table words and the real class files: 30 classes; the members and pool entries that the words name. The judged class is class 1, her method 1. -/
namespace start1
open Jvm.ClassFile
def u (s : String) : CpInfo := .utf8 (stringToUtf16 s)
/-- a pool by its gaps: so many unusable entries, then the entry; so many at the end -/
def gap : Nat → List CpInfo → List CpInfo
  | 0, r => r
  | n + 1, r => .unusable :: gap n r
def poolList (es : List (Nat × CpInfo)) (last : Nat) : List CpInfo := es.foldr (fun e r => gap e.1 (e.2 :: r)) (gap last [])
def pool (es : List (Nat × CpInfo)) (last : Nat) : Array CpInfo := ⟨poolList es last⟩
def fileOf (pool : Array CpInfo) (this : Nat) (attrs : Array Attribute := #[]) (ms : Array MethodInfo := #[]) (fl : Nat := 33) (sup : Nat := 0) (ifs : Array Nat := #[]) (fds : Array FieldInfo := #[]) : ClassFile where
  minorVersion := 0
  majorVersion := 65
  constantPool := pool
  accessFlags := fl
  thisClass := this
  superClass := sup
  interfaces := ifs
  fields := fds
  methods := ms
  attributes := attrs
def plain (name : String) (sup : Option ClassId) : Class where
  name := name
  kind := .ordinary
  loader := none
  accessFlags := 33
  super := sup
  interfaces := #[]
  cf := none
  fields := #[]
  methods := #[]
  instanceTypes := #[]
  staticTypes := #[]
  resolved := #[]
  callSites := []
  init := .initialized
  statics := none
  mirror := none

def pool0 : Array CpInfo := pool [(5, u "<init>"), (0, u "()V"), (1, .class_ 10), (1, u "java/lang/Object")] 113

def k0c0 : Code := { maxStack := 0, maxLocals := 1, code := object_method_1_code, exceptionTable := #[], attributes := #[] }
def k0m0 : Method := { name := "<init>", desc := "()V", sig := { parameters := [], returnType := none }, accessFlags := 1, code := some k0c0 }
/-- java/lang/Object -/
def k0 : Class := { plain "java/lang/Object" none with
  accessFlags := 33
  interfaces := #[]
  cf := some (fileOf pool0 8 #[] #[{ accessFlags := 1, nameIndex := 5, descriptorIndex := 6, attributes := #[] }] 33 0 #[] #[])
  fields := #[]
  methods := #[k0m0]
  instanceTypes := #[]
  staticTypes := #[]
  resolved := Array.replicate 124 none
  statics := none }

def pool1 : Array CpInfo := pool [(2, .class_ 4), (1, u "java/lang/Object"), (0, u "<init>"), (0, u "()V"), (0, .class_ 8), (0, u "com/example/arthurs_seat/arthursseat/language/SourceLocation"), (0, .string 10), (0, u "f"), (0, .methodref 7 12), (0, .nameAndType 5 13), (0, u "(Ljava/lang/String;II)V"), (0, .class_ 15), (0, u "com/example/arthurs_seat/arthursseat/language/Junction"), (0, .string 17), (0, u "a"), (0, .methodref 14 19), (0, .nameAndType 5 20), (0, u "(Ljava/lang/String;Lcom/example/arthurs_seat/arthursseat/language/SourceLocation;)V"), (0, .string 22), (0, u "b"), (0, .string 24), (0, u "c"), (0, .string 26), (0, u "d"), (0, .integer 2147483647), (0, .methodref 14 29), (0, .nameAndType 30 31), (0, u "feed"), (0, u "(Lcom/example/arthurs_seat/arthursseat/language/Junction;)V"), (0, .methodref 14 33), (0, .nameAndType 34 35), (0, u "head"), (0, u "()Lcom/example/arthurs_seat/arthursseat/language/Junction;"), (0, .class_ 37), (0, u "com/example/arthurs_seat/arthursseat/language/JunctionHeadPinLaw"), (2, u "law"), (0, u "(IIII)Z")] 5

def k1m0 : Method := { name := "<init>", desc := "()V", sig := { parameters := [], returnType := none }, accessFlags := 1, code := none }
def k1c1 : Code := { maxStack := 6, maxLocals := 15, code := code, exceptionTable := #[], attributes := #[] }
def k1m1 : Method := { name := "law", desc := "(IIII)Z", sig := { parameters := [.int, .int, .int, .int], returnType := some .boolean }, accessFlags := 9, code := some k1c1 }
/-- com/example/arthurs_seat/arthursseat/language/JunctionHeadPinLaw -/
def k1 : Class := { plain "com/example/arthurs_seat/arthursseat/language/JunctionHeadPinLaw" (some 0) with
  accessFlags := 49
  interfaces := #[]
  cf := some (fileOf pool1 36 #[] #[{ accessFlags := 1, nameIndex := 5, descriptorIndex := 6, attributes := #[] }, { accessFlags := 9, nameIndex := 40, descriptorIndex := 41, attributes := #[] }] 49 2 #[] #[])
  fields := #[]
  methods := #[k1m0, k1m1]
  instanceTypes := #[]
  staticTypes := #[]
  resolved := Array.replicate 47 none
  statics := none }

def pool2 : Array CpInfo := pool [(1, .methodref 2 3), (0, .class_ 4), (0, .nameAndType 5 6), (0, u "java/lang/Object"), (0, u "<init>"), (0, u "()V"), (0, .string 8), (0, u "file"), (0, .methodref 10 11), (0, .class_ 12), (0, .nameAndType 13 14), (0, u "java/util/Objects"), (0, u "requireNonNull"), (0, u "(Ljava/lang/Object;Ljava/lang/String;)Ljava/lang/Object;"), (0, .methodref 16 17), (0, .class_ 18), (0, .nameAndType 19 20), (0, u "java/lang/String"), (0, u "isEmpty"), (0, u "()Z"), (12, .fieldref 34 35), (0, .class_ 36), (0, .nameAndType 8 37), (0, u "com/example/arthurs_seat/arthursseat/language/SourceLocation"), (0, u "Ljava/lang/String;"), (0, .fieldref 34 39), (0, .nameAndType 40 41), (0, u "line"), (0, u "I"), (0, .fieldref 34 43), (0, .nameAndType 44 41), (0, u "column"), (12, u "(Ljava/lang/String;II)V")] 34

def k2c0 : Code := { maxStack := 3, maxLocals := 4, code := prog_134_method_1_code, exceptionTable := #[], attributes := #[] }
def k2m0 : Method := { name := "<init>", desc := "(Ljava/lang/String;II)V", sig := { parameters := [(.object "java/lang/String"), .int, .int], returnType := none }, accessFlags := 1, code := some k2c0 }
/-- com/example/arthurs_seat/arthursseat/language/SourceLocation -/
def k2 : Class := { plain "com/example/arthurs_seat/arthursseat/language/SourceLocation" (some 0) with
  accessFlags := 33
  interfaces := #[]
  cf := some (fileOf pool2 34 #[] #[{ accessFlags := 1, nameIndex := 5, descriptorIndex := 57, attributes := #[] }] 33 2 #[] #[{ accessFlags := 18, nameIndex := 8, descriptorIndex := 37, attributes := #[] }, { accessFlags := 18, nameIndex := 40, descriptorIndex := 41, attributes := #[] }, { accessFlags := 18, nameIndex := 44, descriptorIndex := 41, attributes := #[] }])
  fields := #[{ name := "file", type := (.object "java/lang/String"), accessFlags := 18, slot := 0, constantValue := 0 }, { name := "line", type := .int, accessFlags := 18, slot := 1, constantValue := 0 }, { name := "column", type := .int, accessFlags := 18, slot := 2, constantValue := 0 }]
  methods := #[k2m0]
  instanceTypes := #[(.object "java/lang/String"), .int, .int]
  staticTypes := #[]
  resolved := Array.replicate 92 none
  statics := none }

def pool3 : Array CpInfo := pool [(1, .class_ 2), (0, u "java/io/Serializable"), (0, .class_ 4), (0, u "java/lang/Object")] 2

/-- java/io/Serializable -/
def k3 : Class := { plain "java/io/Serializable" (some 0) with
  accessFlags := 1537
  interfaces := #[]
  cf := some (fileOf pool3 1 #[] #[] 1537 3 #[] #[])
  fields := #[]
  methods := #[]
  instanceTypes := #[]
  staticTypes := #[]
  resolved := Array.replicate 7 none
  statics := none }

def pool4 : Array CpInfo := pool [(1, .class_ 2), (0, u "java/lang/Comparable"), (0, .class_ 4), (0, u "java/lang/Object")] 7

/-- java/lang/Comparable -/
def k4 : Class := { plain "java/lang/Comparable" (some 0) with
  accessFlags := 1537
  interfaces := #[]
  cf := some (fileOf pool4 1 #[] #[] 1537 3 #[] #[])
  fields := #[]
  methods := #[]
  instanceTypes := #[]
  staticTypes := #[]
  resolved := Array.replicate 12 none
  statics := none }

def pool5 : Array CpInfo := pool [(2, .class_ 4), (1, u "java/lang/CharSequence"), (42, .class_ 48), (0, u "java/lang/CharSequence$1CodePointIterator"), (10, .class_ 60), (0, u "java/lang/CharSequence$1CharIterator"), (5, .class_ 67), (0, u "java/lang/Object")] 63

/-- java/lang/CharSequence -/
def k5 : Class := { plain "java/lang/CharSequence" (some 0) with
  accessFlags := 1537
  interfaces := #[]
  cf := some (fileOf pool5 2 #[.nestMembers #[47, 59]] #[] 1537 66 #[] #[])
  fields := #[]
  methods := #[]
  instanceTypes := #[]
  staticTypes := #[]
  resolved := Array.replicate 131 none
  statics := none }

def pool6 : Array CpInfo := pool [(1, .class_ 2), (0, u "java/lang/constant/Constable"), (0, .class_ 4), (0, u "java/lang/Object")] 6

/-- java/lang/constant/Constable -/
def k6 : Class := { plain "java/lang/constant/Constable" (some 0) with
  accessFlags := 1537
  interfaces := #[]
  cf := some (fileOf pool6 1 #[] #[] 1537 3 #[] #[])
  fields := #[]
  methods := #[]
  instanceTypes := #[]
  staticTypes := #[]
  resolved := Array.replicate 11 none
  statics := none }

def pool7 : Array CpInfo := pool [(1, .class_ 2), (0, u "java/lang/constant/ConstantDesc"), (0, .class_ 4), (0, u "java/lang/Object")] 32

/-- java/lang/constant/ConstantDesc -/
def k7 : Class := { plain "java/lang/constant/ConstantDesc" (some 0) with
  accessFlags := 1537
  interfaces := #[]
  cf := some (fileOf pool7 1 #[] #[] 1537 3 #[] #[])
  fields := #[]
  methods := #[]
  instanceTypes := #[]
  staticTypes := #[]
  resolved := Array.replicate 37 none
  statics := none }

def pool8 : Array CpInfo := pool [(2, .class_ 4), (1, u "java/lang/Object"), (0, u "<init>"), (0, u "()V"), (2, .fieldref 10 11), (0, .class_ 12), (0, .nameAndType 13 14), (0, u "java/lang/String"), (0, u "value"), (0, u "[B"), (2, u "coder"), (0, u "B"), (2, u "hash"), (0, u "I"), (2, u "hashIsZero"), (0, u "Z"), (13, u "COMPACT_STRINGS"), (101, u "()Z"), (432, .class_ 576), (0, u "java/lang/CharSequence"), (22, u "CASE_INSENSITIVE_ORDER"), (0, u "Ljava/util/Comparator;"), (91, u "isEmpty"), (408, u "serialPersistentFields"), (0, u "[Ljava/io/ObjectStreamField;"), (0, .class_ 1104), (0, u "java/lang/String$CaseInsensitiveComparator"), (1, .class_ 1107), (0, u "java/io/Serializable"), (0, .class_ 1109), (0, u "java/lang/Comparable"), (0, .class_ 1111), (0, u "java/lang/constant/Constable"), (0, .class_ 1113), (0, u "java/lang/constant/ConstantDesc"), (2, u "serialVersionUID"), (0, u "J"), (3, u "REPL"), (0, u "C"), (2, u "LATIN1"), (1, u "UTF16")] 323

def k8m0 : Method := { name := "<init>", desc := "()V", sig := { parameters := [], returnType := none }, accessFlags := 1, code := none }
def k8c1 : Code := { maxStack := 1, maxLocals := 1, code := jdk_42_method_55_code, exceptionTable := #[], attributes := #[] }
def k8m1 : Method := { name := "isEmpty", desc := "()Z", sig := { parameters := [], returnType := some .boolean }, accessFlags := 1, code := some k8c1 }
/-- java/lang/String -/
def k8 : Class := { plain "java/lang/String" (some 0) with
  accessFlags := 49
  interfaces := #[3, 4, 5, 6, 7]
  cf := some (fileOf pool8 10 #[.nestMembers #[1103]] #[{ accessFlags := 1, nameIndex := 5, descriptorIndex := 6, attributes := #[] }, { accessFlags := 1, nameIndex := 692, descriptorIndex := 142, attributes := #[] }] 49 2 #[1106, 1108, 575, 1110, 1112] #[{ accessFlags := 18, nameIndex := 13, descriptorIndex := 14, attributes := #[] }, { accessFlags := 18, nameIndex := 17, descriptorIndex := 18, attributes := #[] }, { accessFlags := 2, nameIndex := 21, descriptorIndex := 22, attributes := #[] }, { accessFlags := 2, nameIndex := 25, descriptorIndex := 26, attributes := #[] }, { accessFlags := 26, nameIndex := 1116, descriptorIndex := 1117, attributes := #[] }, { accessFlags := 24, nameIndex := 40, descriptorIndex := 26, attributes := #[] }, { accessFlags := 26, nameIndex := 1101, descriptorIndex := 1102, attributes := #[] }, { accessFlags := 26, nameIndex := 1121, descriptorIndex := 1122, attributes := #[] }, { accessFlags := 25, nameIndex := 599, descriptorIndex := 600, attributes := #[] }, { accessFlags := 24, nameIndex := 1125, descriptorIndex := 18, attributes := #[] }, { accessFlags := 24, nameIndex := 1127, descriptorIndex := 18, attributes := #[] }])
  fields := #[{ name := "value", type := (.array .byte), accessFlags := 18, slot := 0, constantValue := 0 }, { name := "coder", type := .byte, accessFlags := 18, slot := 1, constantValue := 0 }, { name := "hash", type := .int, accessFlags := 2, slot := 2, constantValue := 0 }, { name := "hashIsZero", type := .boolean, accessFlags := 2, slot := 3, constantValue := 0 }, { name := "serialVersionUID", type := .long, accessFlags := 26, slot := 0, constantValue := 0 }, { name := "COMPACT_STRINGS", type := .boolean, accessFlags := 24, slot := 1, constantValue := 0 }, { name := "serialPersistentFields", type := (.array (.object "java/io/ObjectStreamField")), accessFlags := 26, slot := 2, constantValue := 0 }, { name := "REPL", type := .char, accessFlags := 26, slot := 3, constantValue := 0 }, { name := "CASE_INSENSITIVE_ORDER", type := (.object "java/util/Comparator"), accessFlags := 25, slot := 4, constantValue := 0 }, { name := "LATIN1", type := .byte, accessFlags := 24, slot := 5, constantValue := 0 }, { name := "UTF16", type := .byte, accessFlags := 24, slot := 6, constantValue := 0 }]
  methods := #[k8m0, k8m1]
  instanceTypes := #[(.array .byte), .byte, .int, .boolean]
  staticTypes := #[.long, .boolean, (.array (.object "java/io/ObjectStreamField")), .char, (.object "java/util/Comparator"), .byte, .byte]
  resolved := Array.replicate 1451 none
  statics := some 0 }

def pool9 : Array CpInfo := pool [(2, .class_ 4), (1, u "java/lang/Object"), (0, u "<init>"), (0, u "()V"), (35, .class_ 44), (1, u "java/util/Objects"), (0, u "requireNonNull"), (48, u "(Ljava/lang/Object;Ljava/lang/String;)Ljava/lang/Object;")] 89

def k9m0 : Method := { name := "<init>", desc := "()V", sig := { parameters := [], returnType := none }, accessFlags := 2, code := none }
def k9c1 : Code := { maxStack := 3, maxLocals := 2, code := jdk_31_method_11_code, exceptionTable := #[], attributes := #[] }
def k9m1 : Method := { name := "requireNonNull", desc := "(Ljava/lang/Object;Ljava/lang/String;)Ljava/lang/Object;", sig := { parameters := [(.object "java/lang/Object"), (.object "java/lang/String")], returnType := some (.object "java/lang/Object") }, accessFlags := 9, code := some k9c1 }
/-- java/util/Objects -/
def k9 : Class := { plain "java/util/Objects" (some 0) with
  accessFlags := 49
  interfaces := #[]
  cf := some (fileOf pool9 42 #[] #[{ accessFlags := 2, nameIndex := 5, descriptorIndex := 6, attributes := #[] }, { accessFlags := 9, nameIndex := 45, descriptorIndex := 94, attributes := #[] }] 49 2 #[] #[])
  fields := #[]
  methods := #[k9m0, k9m1]
  instanceTypes := #[]
  staticTypes := #[]
  resolved := Array.replicate 184 none
  statics := none }

def pool10 : Array CpInfo := pool [(1, .methodref 2 3), (0, .class_ 4), (0, .nameAndType 5 6), (0, u "java/lang/Object"), (0, u "<init>"), (0, u "()V"), (0, .class_ 8), (0, u "java/util/ArrayList"), (0, .methodref 7 3), (0, .fieldref 11 12), (0, .class_ 13), (0, .nameAndType 14 15), (0, u "com/example/arthurs_seat/arthursseat/language/Junction"), (0, u "targets"), (0, u "Ljava/util/List;"), (0, .fieldref 11 17), (0, .nameAndType 18 15), (0, u "downstream"), (0, .fieldref 11 20), (0, .nameAndType 21 22), (0, u "name"), (0, u "Ljava/lang/String;"), (0, .fieldref 11 24), (0, .nameAndType 25 26), (0, u "location"), (0, u "Lcom/example/arthurs_seat/arthursseat/language/SourceLocation;"), (0, .fieldref 11 28), (0, .nameAndType 29 30), (0, u "fed"), (0, u "Z"), (0, .fieldref 11 32), (0, .nameAndType 33 34), (0, u "source"), (0, u "Lcom/example/arthurs_seat/arthursseat/model/ConnectionSource;"), (0, .fieldref 11 36), (0, .nameAndType 37 38), (0, u "upstream"), (0, u "Lcom/example/arthurs_seat/arthursseat/language/Junction;"), (4, .nameAndType 44 45), (0, u "add"), (0, u "(Ljava/lang/Object;)Z"), (8, .interfaceMethodref 55 43), (0, .class_ 56), (0, u "java/util/List"), (8, u "feed"), (12, u "(Ljava/lang/String;Lcom/example/arthurs_seat/arthursseat/language/SourceLocation;)V"), (8, u "()Lcom/example/arthurs_seat/arthursseat/language/Junction;"), (0, u "head"), (7, u "(Lcom/example/arthurs_seat/arthursseat/language/Junction;)V")] 10

def k10c0 : Code := { maxStack := 3, maxLocals := 3, code := prog_95_method_1_code, exceptionTable := #[], attributes := #[] }
def k10m0 : Method := { name := "<init>", desc := "(Ljava/lang/String;Lcom/example/arthurs_seat/arthursseat/language/SourceLocation;)V", sig := { parameters := [(.object "java/lang/String"), (.object "com/example/arthurs_seat/arthursseat/language/SourceLocation")], returnType := none }, accessFlags := 0, code := some k10c0 }
def k10c1 : Code := { maxStack := 1, maxLocals := 2, code := prog_95_method_6_code, exceptionTable := #[], attributes := #[] }
def k10m1 : Method := { name := "head", desc := "()Lcom/example/arthurs_seat/arthursseat/language/Junction;", sig := { parameters := [], returnType := some (.object "com/example/arthurs_seat/arthursseat/language/Junction") }, accessFlags := 0, code := some k10c1 }
def k10c2 : Code := { maxStack := 2, maxLocals := 2, code := prog_95_method_11_code, exceptionTable := #[], attributes := #[] }
def k10m2 : Method := { name := "feed", desc := "(Lcom/example/arthurs_seat/arthursseat/language/Junction;)V", sig := { parameters := [(.object "com/example/arthurs_seat/arthursseat/language/Junction")], returnType := none }, accessFlags := 0, code := some k10c2 }
/-- com/example/arthurs_seat/arthursseat/language/Junction -/
def k10 : Class := { plain "com/example/arthurs_seat/arthursseat/language/Junction" (some 0) with
  accessFlags := 32
  interfaces := #[]
  cf := some (fileOf pool10 11 #[] #[{ accessFlags := 0, nameIndex := 5, descriptorIndex := 78, attributes := #[] }, { accessFlags := 0, nameIndex := 88, descriptorIndex := 87, attributes := #[] }, { accessFlags := 0, nameIndex := 65, descriptorIndex := 96, attributes := #[] }] 32 2 #[] #[{ accessFlags := 18, nameIndex := 21, descriptorIndex := 22, attributes := #[] }, { accessFlags := 18, nameIndex := 25, descriptorIndex := 26, attributes := #[] }, { accessFlags := 2, nameIndex := 37, descriptorIndex := 38, attributes := #[] }, { accessFlags := 2, nameIndex := 33, descriptorIndex := 34, attributes := #[] }, { accessFlags := 2, nameIndex := 29, descriptorIndex := 30, attributes := #[] }, { accessFlags := 18, nameIndex := 14, descriptorIndex := 15, attributes := #[] }, { accessFlags := 18, nameIndex := 18, descriptorIndex := 15, attributes := #[] }])
  fields := #[{ name := "name", type := (.object "java/lang/String"), accessFlags := 18, slot := 0, constantValue := 0 }, { name := "location", type := (.object "com/example/arthurs_seat/arthursseat/language/SourceLocation"), accessFlags := 18, slot := 1, constantValue := 0 }, { name := "upstream", type := (.object "com/example/arthurs_seat/arthursseat/language/Junction"), accessFlags := 2, slot := 2, constantValue := 0 }, { name := "source", type := (.object "com/example/arthurs_seat/arthursseat/model/ConnectionSource"), accessFlags := 2, slot := 3, constantValue := 0 }, { name := "fed", type := .boolean, accessFlags := 2, slot := 4, constantValue := 0 }, { name := "targets", type := (.object "java/util/List"), accessFlags := 18, slot := 5, constantValue := 0 }, { name := "downstream", type := (.object "java/util/List"), accessFlags := 18, slot := 6, constantValue := 0 }]
  methods := #[k10m0, k10m1, k10m2]
  instanceTypes := #[(.object "java/lang/String"), (.object "com/example/arthurs_seat/arthursseat/language/SourceLocation"), (.object "com/example/arthurs_seat/arthursseat/language/Junction"), (.object "com/example/arthurs_seat/arthursseat/model/ConnectionSource"), .boolean, (.object "java/util/List"), (.object "java/util/List")]
  staticTypes := #[]
  resolved := Array.replicate 107 none
  statics := none }

def pool11 : Array CpInfo := pool [(8, .class_ 10), (1, u "java/lang/Iterable"), (24, .class_ 36), (0, u "java/lang/Object")] 25

/-- java/lang/Iterable -/
def k11 : Class := { plain "java/lang/Iterable" (some 0) with
  accessFlags := 1537
  interfaces := #[]
  cf := some (fileOf pool11 8 #[] #[] 1537 35 #[] #[])
  fields := #[]
  methods := #[]
  instanceTypes := #[]
  staticTypes := #[]
  resolved := Array.replicate 62 none
  statics := none }

def pool12 : Array CpInfo := pool [(10, .class_ 12), (1, u "java/util/Collection"), (47, .class_ 61), (0, u "java/lang/Object"), (0, .class_ 63), (0, u "java/lang/Iterable")] 51

/-- java/util/Collection -/
def k12 : Class := { plain "java/util/Collection" (some 0) with
  accessFlags := 1537
  interfaces := #[11]
  cf := some (fileOf pool12 10 #[] #[] 1537 60 #[62] #[])
  fields := #[]
  methods := #[]
  instanceTypes := #[]
  staticTypes := #[]
  resolved := Array.replicate 115 none
  statics := none }

def pool13 : Array CpInfo := pool [(1, .methodref 2 3), (0, .class_ 4), (0, .nameAndType 5 6), (0, u "java/lang/Object"), (0, u "<init>"), (0, u "()V"), (1, .class_ 10), (1, u "java/util/AbstractCollection"), (66, .class_ 78), (0, u "java/util/Collection")] 81

def k13c0 : Code := { maxStack := 1, maxLocals := 1, code := jdk_22_method_1_code, exceptionTable := #[], attributes := #[] }
def k13m0 : Method := { name := "<init>", desc := "()V", sig := { parameters := [], returnType := none }, accessFlags := 4, code := some k13c0 }
/-- java/util/AbstractCollection -/
def k13 : Class := { plain "java/util/AbstractCollection" (some 0) with
  accessFlags := 1057
  interfaces := #[12]
  cf := some (fileOf pool13 8 #[] #[{ accessFlags := 4, nameIndex := 5, descriptorIndex := 6, attributes := #[] }] 1057 2 #[77] #[])
  fields := #[]
  methods := #[k13m0]
  instanceTypes := #[]
  staticTypes := #[]
  resolved := Array.replicate 160 none
  statics := none }

def pool14 : Array CpInfo := pool [(8, .class_ 10), (1, u "java/util/SequencedCollection"), (15, .class_ 27), (0, u "java/lang/Object"), (0, .class_ 29), (0, u "java/util/Collection")] 27

/-- java/util/SequencedCollection -/
def k14 : Class := { plain "java/util/SequencedCollection" (some 0) with
  accessFlags := 1537
  interfaces := #[12]
  cf := some (fileOf pool14 8 #[] #[] 1537 26 #[28] #[])
  fields := #[]
  methods := #[]
  instanceTypes := #[]
  staticTypes := #[]
  resolved := Array.replicate 57 none
  statics := none }

def pool15 : Array CpInfo := pool [(8, .class_ 10), (1, u "java/util/List"), (49, u "add"), (3, u "(Ljava/lang/Object;)Z"), (38, .class_ 104), (0, u "java/lang/Object"), (15, .class_ 121), (0, u "java/util/SequencedCollection")] 129

def k15m0 : Method := { name := "add", desc := "(Ljava/lang/Object;)Z", sig := { parameters := [(.object "java/lang/Object")], returnType := some .boolean }, accessFlags := 1025, code := none }
/-- java/util/List -/
def k15 : Class := { plain "java/util/List" (some 0) with
  accessFlags := 1537
  interfaces := #[14]
  cf := some (fileOf pool15 8 #[] #[{ accessFlags := 1025, nameIndex := 60, descriptorIndex := 64, attributes := #[] }] 1537 103 #[120] #[])
  fields := #[]
  methods := #[k15m0]
  instanceTypes := #[]
  staticTypes := #[]
  resolved := Array.replicate 251 none
  statics := none }

def pool16 : Array CpInfo := pool [(1, .methodref 2 3), (0, .class_ 4), (0, .nameAndType 5 6), (0, u "java/util/AbstractCollection"), (0, u "<init>"), (0, u "()V"), (0, .fieldref 8 9), (0, .class_ 10), (0, .nameAndType 11 12), (0, u "java/util/AbstractList"), (0, u "modCount"), (0, u "I"), (64, .class_ 78), (0, u "java/util/AbstractList$Itr"), (3, .class_ 83), (0, u "java/util/AbstractList$ListItr"), (9, .class_ 94), (0, u "java/util/AbstractList$RandomAccessSubList"), (3, .class_ 99), (0, u "java/util/AbstractList$SubList"), (33, .class_ 134), (0, u "java/util/List"), (73, .class_ 209), (0, u "java/util/AbstractList$SubList$1"), (0, .class_ 211), (0, u "java/util/AbstractList$RandomAccessSpliterator")] 6

def k16c0 : Code := { maxStack := 2, maxLocals := 1, code := jdk_39_method_1_code, exceptionTable := #[], attributes := #[] }
def k16m0 : Method := { name := "<init>", desc := "()V", sig := { parameters := [], returnType := none }, accessFlags := 4, code := some k16c0 }
/-- java/util/AbstractList -/
def k16 : Class := { plain "java/util/AbstractList" (some 13) with
  accessFlags := 1057
  interfaces := #[15]
  cf := some (fileOf pool16 8 #[.nestMembers #[93, 98, 208, 210, 82, 77]] #[{ accessFlags := 4, nameIndex := 5, descriptorIndex := 6, attributes := #[] }] 1057 2 #[133] #[{ accessFlags := 132, nameIndex := 11, descriptorIndex := 12, attributes := #[] }])
  fields := #[{ name := "modCount", type := .int, accessFlags := 132, slot := 0, constantValue := 0 }]
  methods := #[k16m0]
  instanceTypes := #[.int]
  staticTypes := #[]
  resolved := Array.replicate 218 none
  statics := none }

def pool17 : Array CpInfo := pool [(1, .class_ 2), (0, u "java/util/RandomAccess"), (0, .class_ 4), (0, u "java/lang/Object")] 2

/-- java/util/RandomAccess -/
def k17 : Class := { plain "java/util/RandomAccess" (some 0) with
  accessFlags := 1537
  interfaces := #[]
  cf := some (fileOf pool17 1 #[] #[] 1537 3 #[] #[])
  fields := #[]
  methods := #[]
  instanceTypes := #[]
  staticTypes := #[]
  resolved := Array.replicate 7 none
  statics := none }

def pool18 : Array CpInfo := pool [(1, .class_ 2), (0, u "java/lang/Cloneable"), (0, .class_ 4), (0, u "java/lang/Object")] 2

/-- java/lang/Cloneable -/
def k18 : Class := { plain "java/lang/Cloneable" (some 0) with
  accessFlags := 1537
  interfaces := #[]
  cf := some (fileOf pool18 1 #[] #[] 1537 3 #[] #[])
  fields := #[]
  methods := #[]
  instanceTypes := #[]
  staticTypes := #[]
  resolved := Array.replicate 7 none
  statics := none }

def pool19 : Array CpInfo := pool [(1, .methodref 2 3), (0, .class_ 4), (0, .nameAndType 5 6), (0, u "java/util/AbstractList"), (0, u "<init>"), (0, u "()V"), (0, .class_ 8), (0, u "java/lang/Object"), (0, .fieldref 10 11), (0, .class_ 12), (0, .nameAndType 13 14), (0, u "java/util/ArrayList"), (0, u "elementData"), (0, u "[Ljava/lang/Object;"), (2, u "EMPTY_ELEMENTDATA"), (21, .fieldref 10 40), (0, .nameAndType 41 14), (0, u "DEFAULTCAPACITY_EMPTY_ELEMENTDATA"), (5, u "()[Ljava/lang/Object;"), (0, .fieldref 10 49), (0, .nameAndType 50 51), (0, u "size"), (0, u "I"), (11, .fieldref 10 64), (0, .nameAndType 65 51), (0, u "modCount"), (3, .methodref 10 70), (0, .nameAndType 71 72), (0, u "grow"), (0, u "(I)[Ljava/lang/Object;"), (6, .methodref 80 81), (0, .class_ 82), (0, .nameAndType 83 84), (0, u "java/lang/Math"), (0, u "max"), (0, u "(II)I"), (11, u "(Ljava/lang/Object;)Z"), (32, .methodref 10 130), (0, .nameAndType 71 47), (0, .methodref 10 132), (0, .nameAndType 133 134), (0, u "add"), (0, u "(Ljava/lang/Object;[Ljava/lang/Object;I)V"), (13, .class_ 149), (0, u "java/util/List"), (112, .class_ 263), (0, u "java/util/ArrayList$ListItr"), (3, .class_ 268), (0, u "java/util/ArrayList$Itr"), (7, .class_ 277), (0, u "java/util/ArrayList$SubList"), (12, .class_ 291), (0, u "java/util/ArrayList$ArrayListSpliterator"), (37, .class_ 330), (0, u "java/util/RandomAccess"), (0, .class_ 332), (0, u "java/lang/Cloneable"), (0, .class_ 334), (0, u "java/io/Serializable"), (0, u "serialVersionUID"), (0, u "J"), (3, u "DEFAULT_CAPACITY"), (159, .class_ 501), (0, u "java/util/ArrayList$SubList$2"), (0, .class_ 503), (0, u "java/util/ArrayList$SubList$1")] 5

def k19c0 : Code := { maxStack := 2, maxLocals := 1, code := jdk_38_method_2_code, exceptionTable := #[], attributes := #[] }
def k19m0 : Method := { name := "<init>", desc := "()V", sig := { parameters := [], returnType := none }, accessFlags := 1, code := some k19c0 }
def k19c1 : Code := { maxStack := 4, maxLocals := 4, code := jdk_38_method_6_code, exceptionTable := #[], attributes := #[] }
def k19m1 : Method := { name := "grow", desc := "(I)[Ljava/lang/Object;", sig := { parameters := [.int], returnType := some (.array (.object "java/lang/Object")) }, accessFlags := 2, code := some k19c1 }
def k19c2 : Code := { maxStack := 3, maxLocals := 1, code := jdk_38_method_7_code, exceptionTable := #[], attributes := #[] }
def k19m2 : Method := { name := "grow", desc := "()[Ljava/lang/Object;", sig := { parameters := [], returnType := some (.array (.object "java/lang/Object")) }, accessFlags := 2, code := some k19c2 }
def k19c3 : Code := { maxStack := 3, maxLocals := 4, code := jdk_38_method_24_code, exceptionTable := #[], attributes := #[] }
def k19m3 : Method := { name := "add", desc := "(Ljava/lang/Object;[Ljava/lang/Object;I)V", sig := { parameters := [(.object "java/lang/Object"), (.array (.object "java/lang/Object")), .int], returnType := none }, accessFlags := 2, code := some k19c3 }
def k19c4 : Code := { maxStack := 4, maxLocals := 2, code := jdk_38_method_25_code, exceptionTable := #[], attributes := #[] }
def k19m4 : Method := { name := "add", desc := "(Ljava/lang/Object;)Z", sig := { parameters := [(.object "java/lang/Object")], returnType := some .boolean }, accessFlags := 1, code := some k19c4 }
/-- java/util/ArrayList -/
def k19 : Class := { plain "java/util/ArrayList" (some 16) with
  accessFlags := 33
  interfaces := #[15, 17, 18, 3]
  cf := some (fileOf pool19 10 #[.nestMembers #[290, 276, 500, 502, 262, 267]] #[{ accessFlags := 1, nameIndex := 5, descriptorIndex := 6, attributes := #[] }, { accessFlags := 2, nameIndex := 71, descriptorIndex := 72, attributes := #[] }, { accessFlags := 2, nameIndex := 71, descriptorIndex := 47, attributes := #[] }, { accessFlags := 2, nameIndex := 133, descriptorIndex := 134, attributes := #[] }, { accessFlags := 1, nameIndex := 133, descriptorIndex := 96, attributes := #[] }] 33 2 #[148, 329, 331, 333] #[{ accessFlags := 26, nameIndex := 335, descriptorIndex := 336, attributes := #[] }, { accessFlags := 26, nameIndex := 340, descriptorIndex := 51, attributes := #[] }, { accessFlags := 26, nameIndex := 17, descriptorIndex := 14, attributes := #[] }, { accessFlags := 26, nameIndex := 41, descriptorIndex := 14, attributes := #[] }, { accessFlags := 128, nameIndex := 13, descriptorIndex := 14, attributes := #[] }, { accessFlags := 2, nameIndex := 50, descriptorIndex := 51, attributes := #[] }])
  fields := #[{ name := "serialVersionUID", type := .long, accessFlags := 26, slot := 0, constantValue := 0 }, { name := "DEFAULT_CAPACITY", type := .int, accessFlags := 26, slot := 1, constantValue := 0 }, { name := "EMPTY_ELEMENTDATA", type := (.array (.object "java/lang/Object")), accessFlags := 26, slot := 2, constantValue := 0 }, { name := "DEFAULTCAPACITY_EMPTY_ELEMENTDATA", type := (.array (.object "java/lang/Object")), accessFlags := 26, slot := 3, constantValue := 0 }, { name := "elementData", type := (.array (.object "java/lang/Object")), accessFlags := 128, slot := 1, constantValue := 0 }, { name := "size", type := .int, accessFlags := 2, slot := 2, constantValue := 0 }]
  methods := #[k19m0, k19m1, k19m2, k19m3, k19m4]
  instanceTypes := #[.int, (.array (.object "java/lang/Object")), .int]
  staticTypes := #[.long, .int, (.array (.object "java/lang/Object")), (.array (.object "java/lang/Object"))]
  resolved := Array.replicate 509 none
  statics := some 1 }

def pool20 : Array CpInfo := pool [(1, .class_ 2), (0, u "java/lang/Math"), (1, .class_ 6), (1, u "java/lang/Object"), (0, u "<init>"), (0, u "()V"), (89, .class_ 100), (1, u "java/lang/Math$RandomNumberGeneratorHolder"), (71, u "negativeZeroFloatBits"), (0, u "J"), (2, u "negativeZeroDoubleBits"), (21, u "max"), (46, u "$assertionsDisabled"), (0, u "Z"), (88, u "(II)I"), (2, u "twoToTheDoubleScaleDown"), (0, u "D"), (4, u "twoToTheDoubleScaleUp"), (9, u "E"), (3, u "PI"), (2, u "TAU"), (2, u "DEGREES_TO_RADIANS"), (0, u "RADIANS_TO_DEGREES")] 94

def k20m0 : Method := { name := "<init>", desc := "()V", sig := { parameters := [], returnType := none }, accessFlags := 2, code := none }
def k20c1 : Code := { maxStack := 2, maxLocals := 2, code := jdk_29_method_65_code, exceptionTable := #[], attributes := #[] }
def k20m1 : Method := { name := "max", desc := "(II)I", sig := { parameters := [.int, .int], returnType := some .int }, accessFlags := 9, code := some k20c1 }
/-- java/lang/Math -/
def k20 : Class := { plain "java/lang/Math" (some 0) with
  accessFlags := 49
  interfaces := #[]
  cf := some (fileOf pool20 1 #[.nestMembers #[98]] #[{ accessFlags := 2, nameIndex := 7, descriptorIndex := 8, attributes := #[] }, { accessFlags := 9, nameIndex := 198, descriptorIndex := 335, attributes := #[] }] 49 4 #[] #[{ accessFlags := 25, nameIndex := 354, descriptorIndex := 339, attributes := #[] }, { accessFlags := 25, nameIndex := 358, descriptorIndex := 339, attributes := #[] }, { accessFlags := 25, nameIndex := 361, descriptorIndex := 339, attributes := #[] }, { accessFlags := 26, nameIndex := 364, descriptorIndex := 339, attributes := #[] }, { accessFlags := 26, nameIndex := 365, descriptorIndex := 339, attributes := #[] }, { accessFlags := 26, nameIndex := 172, descriptorIndex := 173, attributes := #[] }, { accessFlags := 26, nameIndex := 176, descriptorIndex := 173, attributes := #[] }, { accessFlags := 8, nameIndex := 344, descriptorIndex := 339, attributes := #[] }, { accessFlags := 8, nameIndex := 338, descriptorIndex := 339, attributes := #[] }, { accessFlags := 4120, nameIndex := 245, descriptorIndex := 246, attributes := #[] }])
  fields := #[{ name := "E", type := .double, accessFlags := 25, slot := 0, constantValue := 0 }, { name := "PI", type := .double, accessFlags := 25, slot := 1, constantValue := 0 }, { name := "TAU", type := .double, accessFlags := 25, slot := 2, constantValue := 0 }, { name := "DEGREES_TO_RADIANS", type := .double, accessFlags := 26, slot := 3, constantValue := 0 }, { name := "RADIANS_TO_DEGREES", type := .double, accessFlags := 26, slot := 4, constantValue := 0 }, { name := "negativeZeroFloatBits", type := .long, accessFlags := 26, slot := 5, constantValue := 0 }, { name := "negativeZeroDoubleBits", type := .long, accessFlags := 26, slot := 6, constantValue := 0 }, { name := "twoToTheDoubleScaleUp", type := .double, accessFlags := 8, slot := 7, constantValue := 0 }, { name := "twoToTheDoubleScaleDown", type := .double, accessFlags := 8, slot := 8, constantValue := 0 }, { name := "$assertionsDisabled", type := .boolean, accessFlags := 4120, slot := 9, constantValue := 0 }]
  methods := #[k20m0, k20m1]
  instanceTypes := #[]
  staticTypes := #[.double, .double, .double, .double, .double, .long, .long, .double, .double, .boolean]
  resolved := Array.replicate 460 none
  statics := none }

def pool21 : Array CpInfo := pool [(4, .class_ 6), (1, u "java/lang/Object"), (0, u "<init>"), (0, u "()V"), (5, .class_ 16), (1, u "java/lang/StringLatin1"), (104, u "$assertionsDisabled"), (0, u "Z"), (98, .class_ 223), (1, u "java/lang/StringLatin1$LinesSpliterator"), (166, .class_ 391), (0, u "java/lang/StringLatin1$CharsSpliterator")] 3

def k21m0 : Method := { name := "<init>", desc := "()V", sig := { parameters := [], returnType := none }, accessFlags := 0, code := none }
/-- java/lang/StringLatin1 -/
def k21 : Class := { plain "java/lang/StringLatin1" (some 0) with
  accessFlags := 48
  interfaces := #[]
  cf := some (fileOf pool21 14 #[.nestMembers #[390, 221]] #[{ accessFlags := 0, nameIndex := 7, descriptorIndex := 8, attributes := #[] }] 48 4 #[] #[{ accessFlags := 4120, nameIndex := 121, descriptorIndex := 122, attributes := #[] }])
  fields := #[{ name := "$assertionsDisabled", type := .boolean, accessFlags := 4120, slot := 0, constantValue := 0 }]
  methods := #[k21m0]
  instanceTypes := #[]
  staticTypes := #[.boolean]
  resolved := Array.replicate 395 none
  statics := none }

def pool22 : Array CpInfo := pool [(2, .class_ 4), (1, u "java/lang/Object"), (0, u "<init>"), (0, u "()V"), (17, .class_ 26), (1, u "jdk/internal/util/Preconditions"), (28, .class_ 56), (0, u "jdk/internal/util/Preconditions$4"), (57, .class_ 115), (0, u "jdk/internal/util/Preconditions$1"), (7, u "SIOOBE_FORMATTER"), (0, u "Ljava/util/function/BiFunction;"), (0, .class_ 126), (0, u "jdk/internal/util/Preconditions$2"), (3, u "AIOOBE_FORMATTER"), (0, .class_ 132), (0, u "jdk/internal/util/Preconditions$3"), (3, u "IOOBE_FORMATTER")] 57

def k22m0 : Method := { name := "<init>", desc := "()V", sig := { parameters := [], returnType := none }, accessFlags := 1, code := none }
/-- jdk/internal/util/Preconditions -/
def k22 : Class := { plain "jdk/internal/util/Preconditions" (some 0) with
  accessFlags := 33
  interfaces := #[]
  cf := some (fileOf pool22 24 #[.nestMembers #[55, 131, 125, 114]] #[{ accessFlags := 1, nameIndex := 5, descriptorIndex := 6, attributes := #[] }] 33 2 #[] #[{ accessFlags := 25, nameIndex := 123, descriptorIndex := 124, attributes := #[] }, { accessFlags := 25, nameIndex := 130, descriptorIndex := 124, attributes := #[] }, { accessFlags := 25, nameIndex := 136, descriptorIndex := 124, attributes := #[] }])
  fields := #[{ name := "SIOOBE_FORMATTER", type := (.object "java/util/function/BiFunction"), accessFlags := 25, slot := 0, constantValue := 0 }, { name := "AIOOBE_FORMATTER", type := (.object "java/util/function/BiFunction"), accessFlags := 25, slot := 1, constantValue := 0 }, { name := "IOOBE_FORMATTER", type := (.object "java/util/function/BiFunction"), accessFlags := 25, slot := 2, constantValue := 0 }]
  methods := #[k22m0]
  instanceTypes := #[]
  staticTypes := #[(.object "java/util/function/BiFunction"), (.object "java/util/function/BiFunction"), (.object "java/util/function/BiFunction")]
  resolved := Array.replicate 194 none
  statics := some 2 }

def pool23 : Array CpInfo := pool [(9, u "<init>"), (6, .class_ 18), (1, u "java/lang/Object"), (0, u "()V"), (1, .class_ 23), (1, u "jdk/internal/util/ArraysSupport"), (0, u "LOG2_ARRAY_LONG_INDEX_SCALE"), (0, u "I"), (2, u "U"), (0, u "Ljdk/internal/misc/Unsafe;"), (8, u "BIG_ENDIAN"), (0, u "Z"), (8, u "LOG2_BYTE_BIT_SIZE"), (4, u "LOG2_ARRAY_INT_INDEX_SCALE"), (54, u "JLA"), (0, u "Ljdk/internal/access/JavaLangAccess;"), (11, u "LOG2_ARRAY_BOOLEAN_INDEX_SCALE"), (9, u "LOG2_ARRAY_BYTE_INDEX_SCALE"), (5, u "LOG2_ARRAY_CHAR_INDEX_SCALE"), (5, u "LOG2_ARRAY_SHORT_INDEX_SCALE"), (18, u "LOG2_ARRAY_FLOAT_INDEX_SCALE"), (24, u "LOG2_ARRAY_DOUBLE_INDEX_SCALE"), (89, u "T_BOOLEAN"), (2, u "T_CHAR"), (1, u "T_FLOAT"), (1, u "T_DOUBLE"), (1, u "T_BYTE"), (1, u "T_SHORT"), (1, u "T_INT"), (1, u "T_LONG"), (1, u "SOFT_MAX_ARRAY_LENGTH")] 83

def k23m0 : Method := { name := "<init>", desc := "()V", sig := { parameters := [], returnType := none }, accessFlags := 2, code := none }
/-- jdk/internal/util/ArraysSupport -/
def k23 : Class := { plain "jdk/internal/util/ArraysSupport" (some 0) with
  accessFlags := 33
  interfaces := #[]
  cf := some (fileOf pool23 21 #[] #[{ accessFlags := 2, nameIndex := 9, descriptorIndex := 19, attributes := #[] }] 33 16 #[] #[{ accessFlags := 24, nameIndex := 28, descriptorIndex := 29, attributes := #[] }, { accessFlags := 26, nameIndex := 38, descriptorIndex := 39, attributes := #[] }, { accessFlags := 25, nameIndex := 121, descriptorIndex := 25, attributes := #[] }, { accessFlags := 25, nameIndex := 131, descriptorIndex := 25, attributes := #[] }, { accessFlags := 25, nameIndex := 137, descriptorIndex := 25, attributes := #[] }, { accessFlags := 25, nameIndex := 143, descriptorIndex := 25, attributes := #[] }, { accessFlags := 25, nameIndex := 53, descriptorIndex := 25, attributes := #[] }, { accessFlags := 25, nameIndex := 24, descriptorIndex := 25, attributes := #[] }, { accessFlags := 25, nameIndex := 162, descriptorIndex := 25, attributes := #[] }, { accessFlags := 25, nameIndex := 187, descriptorIndex := 25, attributes := #[] }, { accessFlags := 26, nameIndex := 48, descriptorIndex := 25, attributes := #[] }, { accessFlags := 25, nameIndex := 277, descriptorIndex := 25, attributes := #[] }, { accessFlags := 25, nameIndex := 280, descriptorIndex := 25, attributes := #[] }, { accessFlags := 25, nameIndex := 282, descriptorIndex := 25, attributes := #[] }, { accessFlags := 25, nameIndex := 284, descriptorIndex := 25, attributes := #[] }, { accessFlags := 25, nameIndex := 286, descriptorIndex := 25, attributes := #[] }, { accessFlags := 25, nameIndex := 288, descriptorIndex := 25, attributes := #[] }, { accessFlags := 25, nameIndex := 290, descriptorIndex := 25, attributes := #[] }, { accessFlags := 25, nameIndex := 292, descriptorIndex := 25, attributes := #[] }, { accessFlags := 26, nameIndex := 108, descriptorIndex := 109, attributes := #[] }, { accessFlags := 25, nameIndex := 294, descriptorIndex := 25, attributes := #[] }])
  fields := #[{ name := "U", type := (.object "jdk/internal/misc/Unsafe"), accessFlags := 24, slot := 0, constantValue := 0 }, { name := "BIG_ENDIAN", type := .boolean, accessFlags := 26, slot := 1, constantValue := 0 }, { name := "LOG2_ARRAY_BOOLEAN_INDEX_SCALE", type := .int, accessFlags := 25, slot := 2, constantValue := 0 }, { name := "LOG2_ARRAY_BYTE_INDEX_SCALE", type := .int, accessFlags := 25, slot := 3, constantValue := 0 }, { name := "LOG2_ARRAY_CHAR_INDEX_SCALE", type := .int, accessFlags := 25, slot := 4, constantValue := 0 }, { name := "LOG2_ARRAY_SHORT_INDEX_SCALE", type := .int, accessFlags := 25, slot := 5, constantValue := 0 }, { name := "LOG2_ARRAY_INT_INDEX_SCALE", type := .int, accessFlags := 25, slot := 6, constantValue := 0 }, { name := "LOG2_ARRAY_LONG_INDEX_SCALE", type := .int, accessFlags := 25, slot := 7, constantValue := 0 }, { name := "LOG2_ARRAY_FLOAT_INDEX_SCALE", type := .int, accessFlags := 25, slot := 8, constantValue := 0 }, { name := "LOG2_ARRAY_DOUBLE_INDEX_SCALE", type := .int, accessFlags := 25, slot := 9, constantValue := 0 }, { name := "LOG2_BYTE_BIT_SIZE", type := .int, accessFlags := 26, slot := 10, constantValue := 0 }, { name := "T_BOOLEAN", type := .int, accessFlags := 25, slot := 11, constantValue := 0 }, { name := "T_CHAR", type := .int, accessFlags := 25, slot := 12, constantValue := 0 }, { name := "T_FLOAT", type := .int, accessFlags := 25, slot := 13, constantValue := 0 }, { name := "T_DOUBLE", type := .int, accessFlags := 25, slot := 14, constantValue := 0 }, { name := "T_BYTE", type := .int, accessFlags := 25, slot := 15, constantValue := 0 }, { name := "T_SHORT", type := .int, accessFlags := 25, slot := 16, constantValue := 0 }, { name := "T_INT", type := .int, accessFlags := 25, slot := 17, constantValue := 0 }, { name := "T_LONG", type := .int, accessFlags := 25, slot := 18, constantValue := 0 }, { name := "JLA", type := (.object "jdk/internal/access/JavaLangAccess"), accessFlags := 26, slot := 19, constantValue := 0 }, { name := "SOFT_MAX_ARRAY_LENGTH", type := .int, accessFlags := 25, slot := 20, constantValue := 0 }]
  methods := #[k23m0]
  instanceTypes := #[]
  staticTypes := #[(.object "jdk/internal/misc/Unsafe"), .boolean, .int, .int, .int, .int, .int, .int, .int, .int, .int, .int, .int, .int, .int, .int, .int, .int, .int, (.object "jdk/internal/access/JavaLangAccess"), .int]
  resolved := Array.replicate 378 none
  statics := none }

/-- the primitive byte -/
def k24 : Class := { plain "byte" none with kind := .primitive 'B', accessFlags := 0x411 }
/-- [B -/
def k25 : Class := { plain "[B" (some 0) with kind := .array 24 .byte, interfaces := #[18, 3], accessFlags := 1041 }

/-- the primitive int -/
def k26 : Class := { plain "int" none with kind := .primitive 'I', accessFlags := 0x411 }
/-- [I -/
def k27 : Class := { plain "[I" (some 0) with kind := .array 26 .int, interfaces := #[18, 3], accessFlags := 1041 }

/-- [Lcom/example/arthurs_seat/arthursseat/language/Junction; -/
def k28 : Class := { plain "[Lcom/example/arthurs_seat/arthursseat/language/Junction;" (some 0) with kind := .array 10 (.object "com/example/arthurs_seat/arthursseat/language/Junction"), interfaces := #[18, 3], accessFlags := 1041 }

/-- [Ljava/lang/Object; -/
def k29 : Class := { plain "[Ljava/lang/Object;" (some 0) with kind := .array 0 (.object "java/lang/Object"), interfaces := #[18, 3], accessFlags := 1041 }

def heap : Heap := #[{ cls := 8, slots := #[.long 0, .int 1, .null, .int 0, .null, .int 0, .int 0], vm := .statics 8 },
  { cls := 19, slots := #[.long 0, .int 0, .ref 3, .ref 4], vm := .statics 19 },
  { cls := 22, slots := #[.null, .null, .null], vm := .statics 22 },
  { cls := 29, slots := #[], vm := .none },
  { cls := 29, slots := #[], vm := .none }]
def classes : Array Class := #[k0, k1, k2, k3, k4, k5, k6, k7, k8, k9, k10, k11, k12, k13, k14, k15, k16, k17, k18, k19, k20, k21, k22, k23, k24, k25, k26, k27, k28, k29]
def interned : List (Array UInt16 × Addr) := []
def slotsUsed : Nat := 14
def theMethod : MethodId := ⟨1, 1⟩
def args0 : Array Value := #[.int 5, .int 7, .int 1, .int 2]
def aboutOver (below : List Frame) : State where
  vm := { classes := classes, interned := interned.toArray }
  heap := heap
  slotsUsed := slotsUsed
  threads := #[{ frames := .invoking theMethod args0 :: below }]
def below0 : List Frame := [.native { method := ⟨0, 0⟩, args := #[] }]
def about1 : State := aboutOver below0
def p0 : Program := .bare "" "" ""
def e0 : Env := launch0.env 0 0 0
theorem w_frames : about1.frames = Frame.invoking theMethod args0 :: below0 := rfl
set_option maxRecDepth 65536 in
theorem w_args : argsFit about1.vm theMethod args0 = true := by decide +kernel
set_option maxRecDepth 65536 in
theorem w_heap : heapFits about1 = true := by decide +kernel
set_option maxRecDepth 65536 in
theorem w_runnable : about1.curStatus? = some .runnable := by decide +kernel
set_option maxRecDepth 65536 in
theorem w_alone : about1.alone = true := by decide +kernel
set_option maxRecDepth 65536 in
theorem w_named : about1.methodNamed? x = some theMethod := by decide +kernel
set_option maxRecDepth 65536 in
theorem w_hears : about1.hears theMethod below0 = true := by decide +kernel
set_option maxRecDepth 65536 in
theorem w_ripe : about1.ripe theMethod args0 below0 = true := by decide +kernel
theorem w_running : about1.status = .running := rfl
set_option maxRecDepth 65536 in
theorem w_room : about1.hasRoom e0.platform room_1 = true :=
  launch0.hasRoom_least _ room_1 (by decide +kernel) (by decide +kernel) (by decide +kernel) (by decide +kernel) (by decide +kernel) (by decide +kernel)
theorem allAtoms_all (ts : List Jvm.Cond) (a : Array Jvm.Value) (st : Jvm.State) : (allAtoms ts).before a st = ts.all (fun c => c.before a st) := by
  induction ts with
  | nil => rfl
  | cons c t ih =>
    show (Jvm.Cond.and c (allAtoms t)).before a st = _
    rw [Jvm.Cond.before_and, ih, List.all_cons]
def words1 : List Jvm.Cond := Jvm.Cond.code x code maxLocals ret :: tables_1
/-- a 'code' word, met by the world's own term for the bytes: nothing is compared byte by byte -/
theorem code_word {y : MethodName} {bytes : ByteArray} {mx : Nat} {rt : Option FieldType} {a : Array Value} {s : State} {m : MethodId} {meth : Method} {c : Code} (h1 : s.methodNamed? y = some m) (h2 : s.vm.method? m = some meth) (h3 : meth.code = some c) (h4 : c.code = bytes)
    (h5 : (c.maxLocals == mx && c.exceptionTable.isEmpty && decide (c.maxStack ≤ mostOperands) && decide (meth.sig.returnType = rt) && !meth.locks && decide (parseMethodDescriptor y.desc = some meth.sig)) = true) : (Jvm.Cond.code y bytes mx rt).before a s = true := by
  simp only [Bool.and_eq_true, beq_iff_eq, Bool.not_eq_true', decide_eq_true_eq] at h5
  obtain ⟨⟨⟨⟨⟨g1, g2⟩, g3⟩, g4⟩, g5⟩, g6⟩ := h5
  simp [Cond.before, Cond.holds, Cond.value, h1, h2, h3, h4, g1, g2, g3, g4, g5, g6]
def isCode : Jvm.Cond → Bool
  | .code _ _ _ _ => true
  | _ => false
theorem all_split {L : List Jvm.Cond} {P : Jvm.Cond → Bool} (h1 : L.all (fun c => isCode c || P c) = true) (h2 : ∀ c ∈ L.filter isCode, P c = true) : L.all P = true := by
  refine List.all_eq_true.mpr fun c hc => ?_
  have h := List.all_eq_true.mp h1 c hc
  rcases Bool.eq_false_or_eq_true (isCode c) with hi | hi
  · exact h2 c (List.mem_filter.mpr ⟨hc, hi⟩)
  · simpa [hi] using h
set_option maxRecDepth 65536 in
theorem w_c0 : (Jvm.Cond.code x code maxLocals ret).before args0 about1 = true := code_word (m := ⟨1, 1⟩) (meth := k1m1) (c := k1c1) (by decide +kernel) rfl rfl rfl (by decide +kernel)
set_option maxRecDepth 65536 in
theorem w_c1 : (Jvm.Cond.code ({ cls := "com/example/arthurs_seat/arthursseat/language/SourceLocation", name := "<init>", desc := "(Ljava/lang/String;II)V" } : Jvm.MethodName) prog_134_method_1_code (4 : Nat) (Option.none : Option Jvm.ClassFile.FieldType)).before args0 about1 = true := code_word (m := ⟨2, 0⟩) (meth := k2m0) (c := k2c0) (by decide +kernel) rfl rfl rfl (by decide +kernel)
set_option maxRecDepth 65536 in
theorem w_c2 : (Jvm.Cond.code ({ cls := "java/lang/Object", name := "<init>", desc := "()V" } : Jvm.MethodName) object_method_1_code (1 : Nat) (Option.none : Option Jvm.ClassFile.FieldType)).before args0 about1 = true := code_word (m := ⟨0, 0⟩) (meth := k0m0) (c := k0c0) (by decide +kernel) rfl rfl rfl (by decide +kernel)
set_option maxRecDepth 65536 in
theorem w_c3 : (Jvm.Cond.code ({ cls := "java/util/Objects", name := "requireNonNull", desc := "(Ljava/lang/Object;Ljava/lang/String;)Ljava/lang/Object;" } : Jvm.MethodName) jdk_31_method_11_code (2 : Nat) (Option.some (Jvm.ClassFile.FieldType.object "java/lang/Object"))).before args0 about1 = true := code_word (m := ⟨9, 1⟩) (meth := k9m1) (c := k9c1) (by decide +kernel) rfl rfl rfl (by decide +kernel)
set_option maxRecDepth 65536 in
theorem w_c4 : (Jvm.Cond.code ({ cls := "java/lang/String", name := "isEmpty", desc := "()Z" } : Jvm.MethodName) jdk_42_method_55_code (1 : Nat) (Option.some Jvm.ClassFile.FieldType.boolean)).before args0 about1 = true := code_word (m := ⟨8, 1⟩) (meth := k8m1) (c := k8c1) (by decide +kernel) rfl rfl rfl (by decide +kernel)
set_option maxRecDepth 65536 in
theorem w_c5 : (Jvm.Cond.code ({ cls := "com/example/arthurs_seat/arthursseat/language/Junction", name := "<init>", desc := "(Ljava/lang/String;Lcom/example/arthurs_seat/arthursseat/language/SourceLocation;)V" } : Jvm.MethodName) prog_95_method_1_code (3 : Nat) (Option.none : Option Jvm.ClassFile.FieldType)).before args0 about1 = true := code_word (m := ⟨10, 0⟩) (meth := k10m0) (c := k10c0) (by decide +kernel) rfl rfl rfl (by decide +kernel)
set_option maxRecDepth 65536 in
theorem w_c6 : (Jvm.Cond.code ({ cls := "java/util/ArrayList", name := "<init>", desc := "()V" } : Jvm.MethodName) jdk_38_method_2_code (1 : Nat) (Option.none : Option Jvm.ClassFile.FieldType)).before args0 about1 = true := code_word (m := ⟨19, 0⟩) (meth := k19m0) (c := k19c0) (by decide +kernel) rfl rfl rfl (by decide +kernel)
set_option maxRecDepth 65536 in
theorem w_c7 : (Jvm.Cond.code ({ cls := "java/util/AbstractList", name := "<init>", desc := "()V" } : Jvm.MethodName) jdk_39_method_1_code (1 : Nat) (Option.none : Option Jvm.ClassFile.FieldType)).before args0 about1 = true := code_word (m := ⟨16, 0⟩) (meth := k16m0) (c := k16c0) (by decide +kernel) rfl rfl rfl (by decide +kernel)
set_option maxRecDepth 65536 in
theorem w_c8 : (Jvm.Cond.code ({ cls := "java/util/AbstractCollection", name := "<init>", desc := "()V" } : Jvm.MethodName) jdk_22_method_1_code (1 : Nat) (Option.none : Option Jvm.ClassFile.FieldType)).before args0 about1 = true := code_word (m := ⟨13, 0⟩) (meth := k13m0) (c := k13c0) (by decide +kernel) rfl rfl rfl (by decide +kernel)
set_option maxRecDepth 65536 in
theorem w_c9 : (Jvm.Cond.code ({ cls := "com/example/arthurs_seat/arthursseat/language/Junction", name := "feed", desc := "(Lcom/example/arthurs_seat/arthursseat/language/Junction;)V" } : Jvm.MethodName) prog_95_method_11_code (2 : Nat) (Option.none : Option Jvm.ClassFile.FieldType)).before args0 about1 = true := code_word (m := ⟨10, 2⟩) (meth := k10m2) (c := k10c2) (by decide +kernel) rfl rfl rfl (by decide +kernel)
set_option maxRecDepth 65536 in
theorem w_c10 : (Jvm.Cond.code ({ cls := "java/util/ArrayList", name := "add", desc := "(Ljava/lang/Object;)Z" } : Jvm.MethodName) jdk_38_method_25_code (2 : Nat) (Option.some Jvm.ClassFile.FieldType.boolean)).before args0 about1 = true := code_word (m := ⟨19, 4⟩) (meth := k19m4) (c := k19c4) (by decide +kernel) rfl rfl rfl (by decide +kernel)
set_option maxRecDepth 65536 in
theorem w_c11 : (Jvm.Cond.code ({ cls := "java/util/ArrayList", name := "add", desc := "(Ljava/lang/Object;[Ljava/lang/Object;I)V" } : Jvm.MethodName) jdk_38_method_24_code (4 : Nat) (Option.none : Option Jvm.ClassFile.FieldType)).before args0 about1 = true := code_word (m := ⟨19, 3⟩) (meth := k19m3) (c := k19c3) (by decide +kernel) rfl rfl rfl (by decide +kernel)
set_option maxRecDepth 65536 in
theorem w_c12 : (Jvm.Cond.code ({ cls := "java/util/ArrayList", name := "grow", desc := "()[Ljava/lang/Object;" } : Jvm.MethodName) jdk_38_method_7_code (1 : Nat) (Option.some (Jvm.ClassFile.FieldType.array (Jvm.ClassFile.FieldType.object "java/lang/Object")))).before args0 about1 = true := code_word (m := ⟨19, 2⟩) (meth := k19m2) (c := k19c2) (by decide +kernel) rfl rfl rfl (by decide +kernel)
set_option maxRecDepth 65536 in
theorem w_c13 : (Jvm.Cond.code ({ cls := "java/util/ArrayList", name := "grow", desc := "(I)[Ljava/lang/Object;" } : Jvm.MethodName) jdk_38_method_6_code (4 : Nat) (Option.some (Jvm.ClassFile.FieldType.array (Jvm.ClassFile.FieldType.object "java/lang/Object")))).before args0 about1 = true := code_word (m := ⟨19, 1⟩) (meth := k19m1) (c := k19c1) (by decide +kernel) rfl rfl rfl (by decide +kernel)
set_option maxRecDepth 65536 in
theorem w_c14 : (Jvm.Cond.code ({ cls := "java/lang/Math", name := "max", desc := "(II)I" } : Jvm.MethodName) jdk_29_method_65_code (2 : Nat) (Option.some Jvm.ClassFile.FieldType.int)).before args0 about1 = true := code_word (m := ⟨20, 1⟩) (meth := k20m1) (c := k20c1) (by decide +kernel) rfl rfl rfl (by decide +kernel)
set_option maxRecDepth 65536 in
theorem w_c15 : (Jvm.Cond.code ({ cls := "com/example/arthurs_seat/arthursseat/language/Junction", name := "head", desc := "()Lcom/example/arthurs_seat/arthursseat/language/Junction;" } : Jvm.MethodName) prog_95_method_6_code (2 : Nat) (Option.some (Jvm.ClassFile.FieldType.object "com/example/arthurs_seat/arthursseat/language/Junction"))).before args0 about1 = true := code_word (m := ⟨10, 1⟩) (meth := k10m1) (c := k10c1) (by decide +kernel) rfl rfl rfl (by decide +kernel)
def codes1 : List Jvm.Cond := [Jvm.Cond.code x code maxLocals ret, Jvm.Cond.code ({ cls := "com/example/arthurs_seat/arthursseat/language/SourceLocation", name := "<init>", desc := "(Ljava/lang/String;II)V" } : Jvm.MethodName) prog_134_method_1_code (4 : Nat) (Option.none : Option Jvm.ClassFile.FieldType), Jvm.Cond.code ({ cls := "java/lang/Object", name := "<init>", desc := "()V" } : Jvm.MethodName) object_method_1_code (1 : Nat) (Option.none : Option Jvm.ClassFile.FieldType), Jvm.Cond.code ({ cls := "java/util/Objects", name := "requireNonNull", desc := "(Ljava/lang/Object;Ljava/lang/String;)Ljava/lang/Object;" } : Jvm.MethodName) jdk_31_method_11_code (2 : Nat) (Option.some (Jvm.ClassFile.FieldType.object "java/lang/Object")), Jvm.Cond.code ({ cls := "java/lang/String", name := "isEmpty", desc := "()Z" } : Jvm.MethodName) jdk_42_method_55_code (1 : Nat) (Option.some Jvm.ClassFile.FieldType.boolean), Jvm.Cond.code ({ cls := "com/example/arthurs_seat/arthursseat/language/Junction", name := "<init>", desc := "(Ljava/lang/String;Lcom/example/arthurs_seat/arthursseat/language/SourceLocation;)V" } : Jvm.MethodName) prog_95_method_1_code (3 : Nat) (Option.none : Option Jvm.ClassFile.FieldType), Jvm.Cond.code ({ cls := "java/util/ArrayList", name := "<init>", desc := "()V" } : Jvm.MethodName) jdk_38_method_2_code (1 : Nat) (Option.none : Option Jvm.ClassFile.FieldType), Jvm.Cond.code ({ cls := "java/util/AbstractList", name := "<init>", desc := "()V" } : Jvm.MethodName) jdk_39_method_1_code (1 : Nat) (Option.none : Option Jvm.ClassFile.FieldType), Jvm.Cond.code ({ cls := "java/util/AbstractCollection", name := "<init>", desc := "()V" } : Jvm.MethodName) jdk_22_method_1_code (1 : Nat) (Option.none : Option Jvm.ClassFile.FieldType), Jvm.Cond.code ({ cls := "com/example/arthurs_seat/arthursseat/language/Junction", name := "feed", desc := "(Lcom/example/arthurs_seat/arthursseat/language/Junction;)V" } : Jvm.MethodName) prog_95_method_11_code (2 : Nat) (Option.none : Option Jvm.ClassFile.FieldType), Jvm.Cond.code ({ cls := "java/util/ArrayList", name := "add", desc := "(Ljava/lang/Object;)Z" } : Jvm.MethodName) jdk_38_method_25_code (2 : Nat) (Option.some Jvm.ClassFile.FieldType.boolean), Jvm.Cond.code ({ cls := "java/util/ArrayList", name := "add", desc := "(Ljava/lang/Object;[Ljava/lang/Object;I)V" } : Jvm.MethodName) jdk_38_method_24_code (4 : Nat) (Option.none : Option Jvm.ClassFile.FieldType), Jvm.Cond.code ({ cls := "java/util/ArrayList", name := "grow", desc := "()[Ljava/lang/Object;" } : Jvm.MethodName) jdk_38_method_7_code (1 : Nat) (Option.some (Jvm.ClassFile.FieldType.array (Jvm.ClassFile.FieldType.object "java/lang/Object"))), Jvm.Cond.code ({ cls := "java/util/ArrayList", name := "grow", desc := "(I)[Ljava/lang/Object;" } : Jvm.MethodName) jdk_38_method_6_code (4 : Nat) (Option.some (Jvm.ClassFile.FieldType.array (Jvm.ClassFile.FieldType.object "java/lang/Object"))), Jvm.Cond.code ({ cls := "java/lang/Math", name := "max", desc := "(II)I" } : Jvm.MethodName) jdk_29_method_65_code (2 : Nat) (Option.some Jvm.ClassFile.FieldType.int), Jvm.Cond.code ({ cls := "com/example/arthurs_seat/arthursseat/language/Junction", name := "head", desc := "()Lcom/example/arthurs_seat/arthursseat/language/Junction;" } : Jvm.MethodName) prog_95_method_6_code (2 : Nat) (Option.some (Jvm.ClassFile.FieldType.object "com/example/arthurs_seat/arthursseat/language/Junction"))]
set_option maxRecDepth 65536 in
theorem codes_eq : words1.filter isCode = codes1 := rfl
theorem w_codes : ∀ c ∈ words1.filter isCode, c.before args0 about1 = true := by
  rw [codes_eq]
  intro c hc
  simp only [codes1, List.mem_cons, List.not_mem_nil, or_false] at hc
  rcases hc with rfl | rfl | rfl | rfl | rfl | rfl | rfl | rfl | rfl | rfl | rfl | rfl | rfl | rfl | rfl | rfl
  · exact w_c0
  · exact w_c1
  · exact w_c2
  · exact w_c3
  · exact w_c4
  · exact w_c5
  · exact w_c6
  · exact w_c7
  · exact w_c8
  · exact w_c9
  · exact w_c10
  · exact w_c11
  · exact w_c12
  · exact w_c13
  · exact w_c14
  · exact w_c15
set_option maxRecDepth 65536 in
theorem w_t1 : (words1.take 24).all (fun c => isCode c || c.before args0 about1) = true := by decide +kernel
set_option maxRecDepth 65536 in
theorem w_t2 : ((words1.drop 24).take 24).all (fun c => isCode c || c.before args0 about1) = true := by decide +kernel
set_option maxRecDepth 65536 in
theorem w_t3 : (((words1.drop 24).drop 24).take 24).all (fun c => isCode c || c.before args0 about1) = true := by decide +kernel
set_option maxRecDepth 65536 in
theorem w_t4 : ((((words1.drop 24).drop 24).drop 24).take 24).all (fun c => isCode c || c.before args0 about1) = true := by decide +kernel
set_option maxRecDepth 65536 in
theorem w_t5 : (((((words1.drop 24).drop 24).drop 24).drop 24).take 24).all (fun c => isCode c || c.before args0 about1) = true := by decide +kernel
set_option maxRecDepth 65536 in
theorem w_t6 : (((((words1.drop 24).drop 24).drop 24).drop 24).drop 24).all (fun c => isCode c || c.before args0 about1) = true := by decide +kernel
theorem w_tables : (allAtoms (Jvm.Cond.code x code maxLocals ret :: tables_1)).before args0 about1 = true := by
  rw [allAtoms_all]
  show words1.all (fun c => c.before args0 about1) = true
  refine all_split ?_ w_codes
  rw [← List.take_append_drop 24 words1, List.all_append, w_t1, ← List.take_append_drop 24 (words1.drop 24), List.all_append, w_t2, ← List.take_append_drop 24 ((words1.drop 24).drop 24), List.all_append, w_t3, ← List.take_append_drop 24 (((words1.drop 24).drop 24).drop 24), List.all_append, w_t4, ← List.take_append_drop 24 ((((words1.drop 24).drop 24).drop 24).drop 24), List.all_append, w_t5, w_t6]
  rfl
set_option maxRecDepth 65536 in
theorem w_rest : rest_1_c.before args0 about1 = true := by decide +kernel
set_option maxRecDepth 65536 in
theorem w_case : (Jvm.Cond.and given_1 narrow_1).before args0 about1 = true := by decide +kernel
set_option maxRecDepth 65536 in
theorem w_consts : constsHeld consts_1 about1 := Jvm.Lit.constsHeldB_iff.mp (by decide +kernel)
theorem w_applies : (headSpec (Jvm.Cond.code x code maxLocals ret :: tables_1) room_1).applies x e0.platform about1 = true :=
  (Spec.applies_iff w_frames).mpr ⟨w_running, w_runnable, w_alone, w_named, w_hears, w_ripe, w_room, w_tables⟩
theorem atStart : AtStart classFile x code maxLocals ret World_1 tables_1 room_1 Calls_1 rest_1 Pre_1 launch0 p0 e0 about1 theMethod args0 below0 :=
  ⟨lists_1, trivial, launch0.admits_env _ _ _, launch0.least_env, fairChoices_fair.cas, fairChoices_fair.clock, w_frames, w_args, w_heap, w_applies, ⟨w_consts, trivial⟩, w_rest, w_case⟩
end start1
theorem witness_1 : WitnessClaimed_1 := ⟨start1.p0, start1.e0, start1.about1, start1.theMethod, start1.args0, start1.below0, start1.atStart⟩
end Jvm.Pilot.@@N@@
