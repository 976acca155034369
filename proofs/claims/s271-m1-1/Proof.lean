import JvmDerived
import JvmDerived.Pilot.@@N@@Statement
import JvmDerived.Pilot.@@N@@Code
set_option linter.unusedVariables false
set_option linter.unusedSimpArgs false
namespace Jvm.RoadKit
open Sem ClassFile Op Lib Jvm.Stand Jvm.Free Jvm.LawKit
def IAr (Z : State) (h : Heap) (a : Addr) (ty : FieldType) (n : Int32) (f : Nat → Int32) : Prop := ∃ c : Cell, Arr Z h a c ty ∧ c.slots.size = n.toNatClampNeg ∧ ¬ n < 0 ∧ ∀ i, i < c.slots.size → c.slots[i]? = some (.int (f i))
def ownU (f : Nat → Int32) (j : Nat) (v : Int32) : Nat → Int32 := fun i => if i = j then v else f i
section
variable {Z : State} {h h' : Heap} {a b : Addr} {ty : FieldType} {n : Int32} {f : Nat → Int32} {sl : Nat} {v : Value} {ws : List Addr}
theorem IAr.lt (F : IAr Z h a ty n f) : a < h.size := by obtain ⟨c, A, -⟩ := F; exact A.lt
theorem IAr.ext (F : IAr Z h a ty n f) (E : Ext h h') : IAr Z h' a ty n f := by obtain ⟨c, A, r⟩ := F; exact ⟨c, A.ext E, r⟩
theorem IAr.other (F : IAr Z h b ty n f) (W : Wr h h' a sl v) (q : b ≠ a) : IAr Z h' b ty n f := by obtain ⟨c, A, r⟩ := F; exact ⟨c, A.other W q, r⟩
theorem IAr.keep (F : IAr Z h a ty n f) (K : Keep h h' ws) (q : a ∉ ws) : IAr Z h' a ty n f := by obtain ⟨c, A, r⟩ := F; exact ⟨c, ⟨K.2.1 a c A.1 q, A.2⟩, r⟩
theorem IAr.nostat (F : IAr Z h a ty n f) : ∀ cell : Cell, h[a]? = some cell → cell.vm.isStatics = false := by obtain ⟨c, A, r⟩ := F; exact Arr.nostat A
theorem IAr.nn (F : IAr Z h a ty n f) : ¬ n < 0 := by obtain ⟨c, A, S, q, r⟩ := F; exact q
theorem IAr.new {k : ClassId} {z : Int32} (A : Arr Z h a (newA k ty z) ty) (q : ¬ z < 0) (hd : defaultValue ty = .int 0) : IAr Z h a ty z (fun _ => 0) := by
  obtain ⟨c, A', -, S, q', H, -⟩ := Arv.new A q
  exact ⟨c, A', S, q', fun i hi => by have h1 := H i hi; rw [hd] at h1; simpa using h1⟩
theorem IAr.set {j : Nat} {x : Int32} (F : IAr Z h a ty n f) (W : Wr h h' a j (.int x)) : IAr Z h' a ty n (ownU f j x) := by
  obtain ⟨c, A, S, q, H⟩ := F
  refine ⟨c.setSlot j (.int x), A.same W, ?_, q, fun i hi => ?_⟩
  · simpa [Cell.setSlot] using S
  · have hi' : i < c.slots.size := by simpa [Cell.setSlot] using hi
    show (c.slots.setIfInBounds j (.int x))[i]? = some (.int (if i = j then x else f i))
    by_cases e : i = j
    · subst e
      rw [if_pos rfl, Array.getElem?_setIfInBounds_self_of_lt hi']
    · rw [if_neg e, Array.getElem?_setIfInBounds_ne (Ne.symm e)]
      exact H i hi'
end
section New
variable {p : Program} {l : Launch} {e : Env} {R : Room} {s : State} {m : MethodId} {args : Array Value} {below : List Frame} {meth : Method} {c : Code} {T : State} {locs : List Loc} {cells slots : Nat}
theorem retI (X : Stand p l e R s m args below meth c T locs cells slots) (hx : p.tables.exec = Jvm.exec) {pc : Nat} {Ls : Array Slot} {z : Int32} {rest : List Value} (hret : meth.sig.returnType = some .int) (hd : decode c.code pc = .ok (.ireturn, 1)) {fs : List Frame}
    (hl : ∀ (f : JFrame) (acts : List Action), f.method = m → f.locked = none → f.entered = [] → (doReturn e (T.setTop f) acts (some (.int z))).1 = T.setFrames fs) : Steps p.tables e below (T.setTop (mkF m pc Ls (.int z :: rest))) (T.setFrames fs) := by
  have hm' : T.vm.method? m = some meth := X.method'
  have hn : narrow .int (.int z) = .int z := rfl
  show Steps p.tables e below (T.setTop { method := m, pc := pc, locals := Ls, stack := _ :: rest, locked := none }) _
  jvm_step X.here [X.here.top, hx, hd, hm', hret, hn]
  first | (intro acts; rw [hl _ acts rfl rfl rfl]) | rw [hl _ _ rfl rfl rfl]
  exact Steps.refl _
theorem ldI {Z : State} {h : Heap} (X : Stand p l e R s m args below meth c T locs cells slots) (hx : p.tables.exec = Jvm.exec) (hZ : Z.Warmed39 s.vm) (eT : T.heap = h) {a : Addr} {n : Int32} {f : Nat → Int32} (F : IAr Z h a .int n f) {j : Int32} (hj : ¬ j < 0 ∧ j < n) {g : JFrame} (hg : g.method = m) {rest : List Value} (hs : g.stack = .int j :: .ref a :: rest) (hd : decode c.code g.pc = .ok (.iaload, 1)) {target : State}
    (hr : Steps p.tables e below (T.setTop { g with pc := g.pc + 1, stack := .int (f j.toNatClampNeg) :: rest }) target) : Steps p.tables e below (T.setTop g) target := by
  obtain ⟨cl, A, S, q, H⟩ := F
  exact X.iaload hx (by rw [eT]; exact A.1) (State.isArrayOf_alike hZ.alike A.2.1) A.2.2 (inb_of S hj) (H _ (Nat.lt_of_not_le fun y => inb_of S hj (Or.inr y))) hg hs hd _ hr
theorem sI {Z : State} {h : Heap} (X : Stand p l e R s m args below meth c T locs cells slots) (hx : p.tables.exec = Jvm.exec) (hZ : Z.Warmed39 s.vm) (eT : T.heap = h) {a : Addr} {n : Int32} {f : Nat → Int32} (F : IAr Z h a .int n f) {j : Int32} {x : Int32} (hj : ¬ j < 0 ∧ j < n) {g : JFrame} (hg : g.method = m) {rest : List Value} (hs : g.stack = .int x :: .int j :: .ref a :: rest) (hd : decode c.code g.pc = .ok (.iastore, 1)) :
    ∃ T' h', Stand p l e R s m args below meth c T' (locs ++ [⟨a, j.toNatClampNeg⟩]) cells slots ∧ T'.heap = h' ∧ Wr h h' a j.toNatClampNeg (.int x) ∧ IAr Z h' a .int n (ownU f j.toNatClampNeg x) ∧ ∀ target, Steps p.tables e below (T'.setTop { g with pc := g.pc + 1, stack := rest }) target → Steps p.tables e below (T.setTop g) target := by
  have F' := F
  obtain ⟨cl, A, S, q, H⟩ := F
  obtain ⟨T', h', X', e', W', st'⟩ := stI X hx hZ eT A (inb_of S hj) hg hs hd
  exact ⟨T', h', X', e', W', F'.set W', st'⟩
theorem ldZ {Z : State} {h : Heap} (X : Stand p l e R s m args below meth c T locs cells slots) (hx : p.tables.exec = Jvm.exec) (hZ : Z.Warmed39 s.vm) (eT : T.heap = h) {a : Addr} {n : Int32} {f : Nat → Int32} (F : IAr Z h a .boolean n f) {j : Int32} (hj : ¬ j < 0 ∧ j < n) {g : JFrame} (hg : g.method = m) {rest : List Value} (hs : g.stack = .int j :: .ref a :: rest) (hd : decode c.code g.pc = .ok (.baload, 1)) {target : State}
    (hr : Steps p.tables e below (T.setTop { g with pc := g.pc + 1, stack := .int (f j.toNatClampNeg) :: rest }) target) : Steps p.tables e below (T.setTop g) target := by
  obtain ⟨cl, A, S, q, H⟩ := F
  exact X.baloadBooleans hx (by rw [eT]; exact A.1) (State.isArrayOf_alike hZ.alike A.2.1) A.2.2 (inb_of S hj) (H _ (Nat.lt_of_not_le fun y => inb_of S hj (Or.inr y))) hg hs hd _ hr
theorem sZ {Z : State} {h : Heap} (X : Stand p l e R s m args below meth c T locs cells slots) (hx : p.tables.exec = Jvm.exec) (hZ : Z.Warmed39 s.vm) (eT : T.heap = h) {a : Addr} {n : Int32} {f : Nat → Int32} (F : IAr Z h a .boolean n f) {j : Int32} {x : Int32} (hj : ¬ j < 0 ∧ j < n) {g : JFrame} (hg : g.method = m) {rest : List Value} (hs : g.stack = .int x :: .int j :: .ref a :: rest) (hd : decode c.code g.pc = .ok (.bastore, 1)) :
    ∃ T' h', Stand p l e R s m args below meth c T' (locs ++ [⟨a, j.toNatClampNeg⟩]) cells slots ∧ T'.heap = h' ∧ Wr h h' a j.toNatClampNeg (.int (nar .boolean x)) ∧ IAr Z h' a .boolean n (ownU f j.toNatClampNeg (nar .boolean x)) ∧ ∀ target, Steps p.tables e below (T'.setTop { g with pc := g.pc + 1, stack := rest }) target → Steps p.tables e below (T.setTop g) target := by
  have F' := F
  obtain ⟨cl, A, S, q, H⟩ := F
  obtain ⟨T', h', X', e', W', st'⟩ := stZ X hx hZ eT A (inb_of S hj) hg hs hd
  exact ⟨T', h', X', e', W', F'.set W', st'⟩
theorem alen {Z : State} {h : Heap} (X : Stand p l e R s m args below meth c T locs cells slots) (hx : p.tables.exec = Jvm.exec) (hZ : Z.Warmed39 s.vm) (eT : T.heap = h) {a : Addr} {ty : FieldType} {n : Int32} {f : Nat → Int32} (F : IAr Z h a ty n f) {g : JFrame} (hg : g.method = m) {rest : List Value} (hs : g.stack = .ref a :: rest) (hd : decode c.code g.pc = .ok (.arraylength, 1)) {target : State}
    (hr : Steps p.tables e below (T.setTop { g with pc := g.pc + 1, stack := .int n :: rest }) target) : Steps p.tables e below (T.setTop g) target := by
  obtain ⟨cl, A, S, q, H⟩ := F
  refine X.arraylength hx (by rw [eT]; exact A.1) (State.isArrayOf_alike hZ.alike A.2.1) hg hs hd _ ?_
  rw [len_of S q]
  exact hr
theorem own_selp {s : State} {a0 : Array Value} {y : MethodName} {n : Nat} (wi : (Cond.instantiable y.cls n).before a0 s = true) (hinst : (Cond.instanceMethod y).before a0 s = true) (hp : s.PrivateAt y) (hy : y.cls ≠ "java/lang/invoke/MethodHandle" ∧ y.cls ≠ "java/lang/invoke/VarHandle") : (Cond.selects y.cls y y).before a0 s = true := by
  obtain ⟨t, kt, g1, g2, g3, g4, -⟩ := Cond.instantiable_spec wi
  have g4' : kt.isInterface = false := by
    cases hq : kt.isInterface
    · rfl
    · rw [hq] at g4; cases g4
  exact selects_self_of_private g1 g2 g4' hp hinst hy
theorem own_clone {Z : State} {h : Heap} {a : Addr} {ty : FieldType} {z : Int32} {f : Nat → Int32} (X : Stand p l e R s m args below meth c T locs cells slots) (hx : p.tables.exec = Jvm.exec) (hZ : Z.Warmed39 s.vm) {a0 : Array Value} {own ad : String} {index : Nat} (hown : s.vm.findClass own = some m.cls)
    (w1 : (Cond.methodLink own index ⟨ad, "clone", "()Ljava/lang/Object;"⟩).before a0 Z = true) (w2 : (Cond.sameMethod ad "java/lang/Object" "clone" "()Ljava/lang/Object;").before a0 Z = true) (w3 : (Cond.native ⟨"java/lang/Object", "clone", "()Ljava/lang/Object;"⟩).before a0 Z = true)
    (w4 : (Cond.instanceMethod ⟨"java/lang/Object", "clone", "()Ljava/lang/Object;"⟩).before a0 Z = true) (w5 : (Cond.selects ad ⟨ad, "clone", "()Ljava/lang/Object;"⟩ ⟨"java/lang/Object", "clone", "()Ljava/lang/Object;"⟩).before a0 Z = true) (w6 : (Cond.castable ad "java/lang/Cloneable").before a0 Z = true)
    (eT : T.heap = h) (F : IAr Z h a ty z f) (E : Exa Z h a ad) (hfit : ∀ i, fits ty (.int (f i)) = true) {g : JFrame} (hg : g.method = m) (hsize : g.locals.size = c.maxLocals) {rest : List Value} (hst : g.stack = .ref a :: rest) (hd : decode c.code g.pc = .ok (.invokevirtual index, 3))
    (hf : 1 ≤ R.frames) {W cap : Nat} (hW : 2 * g.monitorRoom + (rest.map fun v => v.category).sum ≤ W) (hl : W + 14 ≤ R.locals) (hcap : z.toNatClampNeg ≤ cap) (hc : cells + 1 ≤ R.cells) (hsl : slots + cap ≤ R.slots) :
    ∃ T' h', Stand p l e R s m args below meth c T' locs (cells + 1) (slots + cap) ∧ T'.heap = h' ∧ Ext h h' ∧ IAr Z h' h.size ty z f ∧ Exa Z h' h.size ad ∧
      ∀ target, Steps p.tables e below (T'.setTop { g with pc := g.pc + 3, stack := .ref h.size :: rest }) target → Steps p.tables e below (T.setTop g) target := by
  obtain ⟨cl, A, S, q3, H⟩ := F
  have FC : FitC Z cl := fitC_of A fun i hi v hv => by rw [H i hi] at hv; cases hv; exact hfit i
  obtain ⟨T', h', X', e', ex, A', E', st⟩ := cloneA X hx hZ hown w1 w2 w3 w4 w5 w6 eT A E FC hg hsize hst hd hf hW hl (by rw [S]; exact hcap) hc hsl
  exact ⟨T', h', X', e', ex, ⟨cloneOf cl, A', S, q3, H⟩, E', st⟩
end New
end Jvm.RoadKit
namespace Jvm.Pilot.@@N@@
open Jvm Jvm.ClassFile Sem Op Lib Jvm.Free Jvm.Stand Jvm.LawKit Jvm.RoadKit Bundle Jvm.Pilot.@@N@@.Jvm.D
theorem own_rem (x y : Int32) : x - (x / y) * y = x % y := by
  apply Int32.toInt_inj.mp
  have h1 := Int32.le_toInt (x % y)
  have h2 := Int32.toInt_lt (x % y)
  rw [Int32.toInt_sub, Int32.toInt_mul, Int32.toInt_div, Int.bmod_mul_bmod, Int.sub_bmod_bmod, Int.mul_comm (x.toInt.tdiv y.toInt), ← Int.tmod_def, ← Int32.toInt_mod]
  exact Int.bmod_eq_of_le_mul_two (by omega) (by omega)
theorem own_nat (x : Int32) : (x.toBitVec.toNat : Int) = x.toInt % 4294967296 := by
  have h := x.toBitVec.isLt
  show _ = x.toBitVec.toInt % 4294967296
  rw [BitVec.toInt_eq_toNat_cond]; split <;> omega
theorem own_mask (x m : Int32) (k : Nat) (hm : m.toBitVec.toNat = 2 ^ k - 1) : (x &&& m).toBitVec.toNat = x.toBitVec.toNat % 2 ^ k := by
  show (x.toBitVec &&& m.toBitVec).toNat = _
  rw [BitVec.toNat_and, hm, Nat.and_two_pow_sub_one_eq_mod]
theorem own_e0 : (0 : Int32).toInt = 0 := rfl
theorem own_e1 : (1 : Int32).toInt = 1 := rfl
theorem own_e3 : (3 : Int32).toInt = 3 := rfl
theorem own_i3 {j z : Int32} (h : 0 ≤ j.toInt ∧ j.toInt < 3) (hz : z = 3) : ¬ j < 0 ∧ j < z := by
  subst hz
  rw [Int32.lt_iff_toInt_lt, Int32.lt_iff_toInt_lt, own_e0, own_e3]; omega
theorem own_i3c {j z : Int32} (h : ¬ j < 0) (h3 : j.toInt < 3) (hz : z = 3) : ¬ j < 0 ∧ j < z := by
  subst hz
  refine ⟨h, ?_⟩
  rw [Int32.lt_iff_toInt_lt, own_e3]; omega
theorem own_l0 : 0 ≤ (0 : Int32).toInt ∧ (0 : Int32).toInt ≤ 3 ∧ 3 - (0 : Int32).toInt < ((4 : Nat) : Int) := by decide
theorem own_l2 {i z : Int32} {k : Nat} (h : 0 ≤ i.toInt ∧ i.toInt ≤ 3 ∧ 3 - i.toInt < ((k + 1 : Nat) : Int)) (hz : z = 3) (hc : i < z) : ¬ i < 0 ∧ i < z := by
  refine ⟨?_, hc⟩
  rw [Int32.lt_iff_toInt_lt, own_e0]; omega
theorem own_l3 {i z : Int32} {k : Nat} (h : 0 ≤ i.toInt ∧ i.toInt ≤ 3 ∧ 3 - i.toInt < ((k + 1 : Nat) : Int)) (hz : z = 3) (hc : i < z) : 0 ≤ (i + 1).toInt ∧ (i + 1).toInt ≤ 3 ∧ 3 - (i + 1).toInt < (k : Int) := by
  subst hz
  rw [Int32.lt_iff_toInt_lt, own_e3] at hc
  have b := c_iadd i 1
  have r := rng32 (i + 1)
  have e := own_e1
  omega
theorem own_r3 (x : Int32) (h : 0 ≤ x.toInt) : 0 ≤ (x - (x / 3) * 3).toInt ∧ (x - (x / 3) * 3).toInt < 3 := by
  rw [own_rem]
  have b := (c_irem x 3 3 rfl).1 h
  omega
theorem own_255 (x : Int32) : 0 ≤ (x &&& 255).toInt := by
  have a := c_mask x 255 8 (by decide) rfl
  omega

theorem pn_0 : plainName "com/example/podflow/podflow/simulation/BallotVotePinLaw" = true := by first | (simp [plainName, overriddenIn]; done) | decide +kernel
theorem d1_0 : decode method_2_code 0 = .ok (.iload_n 0, 1) := by decide +kernel
theorem d1_1 : decode method_2_code 1 = .ok (.iload_n 3, 1) := by decide +kernel
theorem d1_2 : decode method_2_code 2 = .ok (.if_icmp .ne 7, 3) := by decide +kernel
theorem d1_5 : decode method_2_code 5 = .ok (.iconst 1, 1) := by decide +kernel
theorem d1_6 : decode method_2_code 6 = .ok (.goto 4, 3) := by decide +kernel
theorem d1_9 : decode method_2_code 9 = .ok (.iconst 0, 1) := by decide +kernel
theorem d1_10 : decode method_2_code 10 = .ok (.iload_n 1, 1) := by decide +kernel
theorem d1_11 : decode method_2_code 11 = .ok (.iload_n 3, 1) := by decide +kernel
theorem d1_12 : decode method_2_code 12 = .ok (.if_icmp .ne 7, 3) := by decide +kernel
theorem d1_15 : decode method_2_code 15 = .ok (.iconst 1, 1) := by decide +kernel
theorem d1_16 : decode method_2_code 16 = .ok (.goto 4, 3) := by decide +kernel
theorem d1_19 : decode method_2_code 19 = .ok (.iconst 0, 1) := by decide +kernel
theorem d1_20 : decode method_2_code 20 = .ok (.iadd, 1) := by decide +kernel
theorem d1_21 : decode method_2_code 21 = .ok (.iload_n 2, 1) := by decide +kernel
theorem d1_22 : decode method_2_code 22 = .ok (.iload_n 3, 1) := by decide +kernel
theorem d1_23 : decode method_2_code 23 = .ok (.if_icmp .ne 7, 3) := by decide +kernel
theorem d1_26 : decode method_2_code 26 = .ok (.iconst 1, 1) := by decide +kernel
theorem d1_27 : decode method_2_code 27 = .ok (.goto 4, 3) := by decide +kernel
theorem d1_30 : decode method_2_code 30 = .ok (.iconst 0, 1) := by decide +kernel
theorem d1_31 : decode method_2_code 31 = .ok (.iadd, 1) := by decide +kernel
theorem d1_32 : decode method_2_code 32 = .ok (.ireturn, 1) := by decide +kernel
theorem ef_1 (m : MethodId) (x0 : Int32) (x1 : Int32) (x2 : Int32) (x3 : Int32) : entryFrame m #[(.int x0), (.int x1), (.int x2), (.int x3)] 4 = mkF m 0 #[.val (.int x0), .val (.int x1), .val (.int x2), .val (.int x3)] [] := by first | (simp [entryFrame, mkF, argsToLocals, Value.category]; done) | rfl
def f1_s0_10 (p1 : Int32) (p4 : Int32) : Int32 := (if p1 = p4 then (1 : Int32) else (0 : Int32))
def f1_s0_20 (p2 : Int32) (p4 : Int32) : Int32 := (if p2 = p4 then (1 : Int32) else (0 : Int32))
def f1_s0_31 (p3 : Int32) (p4 : Int32) : Int32 := (if p3 = p4 then (1 : Int32) else (0 : Int32))
def f1 (p1 : Int32) (p2 : Int32) (p3 : Int32) (p4 : Int32) : Int32 := (((f1_s0_10 p1 p4) + (f1_s0_20 p2 p4)) + (f1_s0_31 p3 p4))
def Q1 (Z : State) (p1 : Int32) (p2 : Int32) (p3 : Int32) (p4 : Int32) (h0 : Heap) (n0 : Nat) (v : Option Value) (h : Heap) (L : List Loc) : Prop := v = some (.int (f1 p1 p2 p3 p4)) ∧ Fr n0 L ∧ h = h0
set_option maxRecDepth 65536 in
set_option maxHeartbeats 40000000 in
theorem rm1 (l : Launch) (Z : State) (a0 : Array Value) (hw : ∀ d ∈ tables_1, d.before a0 Z = true) (ws : List Jvm.Cond) (p1 : Int32) (p2 : Int32) (p3 : Int32) (p4 : Int32) (h0 : Heap) (n0 : Nat) (Z0 : n0 ≤ h0.size) :
    MetFree l (⟨"com/example/podflow/podflow/simulation/BallotVotePinLaw", "cnt", "(IIII)I"⟩ : MethodName) (head1 (Jvm.Cond.code (⟨"com/example/podflow/podflow/simulation/BallotVotePinLaw", "cnt", "(IIII)I"⟩ : MethodName) method_2_code 4 (some .int) :: ws) ({ frames := 0, cells := 0, slots := 0, locals := 0 } : Room)) (fun a U => a = #[(.int p1), (.int p2), (.int p3), (.int p4)] ∧ Z.Warmed39 U.vm ∧ U.heap = h0) (fun _ _ _ _ _ => True) (fun _ U o U' => ∃ v L, o = .returned v ∧ Q1 Z p1 p2 p3 p4 h0 n0 v U'.heap L ∧ FrameEnd U o U' L ({ frames := 0, cells := 0, slots := 0, locals := 0 } : Room).cells ({ frames := 0, cells := 0, slots := 0, locals := 0 } : Room).slots) := by
  refine MetFree.of_bodySF (plainFor_of_name pn_0) hisR ?_
  intro p e s m args below meth c s₁ Bd hml0 hP hK
  obtain ⟨rfl, hZ, hh⟩ := hP
  have hx := Bd.exec
  have hby := Bd.bytes
  have hml : c.maxLocals = 4 := hml0
  have hown : s.vm.findClass "com/example/podflow/podflow/simulation/BallotVotePinLaw" = some m.cls := findClass_of_methodNamed Bd.named
  have hnm := (name_of_methodNamed Bd.named Bd.method).1
  have X0 : Stand p l e ({ frames := 0, cells := 0, slots := 0, locals := 0 } : Room) s m #[(.int p1), (.int p2), (.int p3), (.int p4)] below meth c s₁ [] 0 0 := Stand.of_body Bd
  have e0 : s₁.heap = h0 := by rw [← hh, Bd.state]; rfl
  have N0 := Fr.nil n0
  have pre0 : ∀ t, Steps p.tables e below (s₁.setTop (mkF m 0 #[.val (.int p1), .val (.int p2), .val (.int p3), .val (.int p4)] [])) t → Steps p.tables e below (s₁.setTop (entryFrame m #[(.int p1), (.int p2), (.int p3), (.int p4)] 4)) t := fun t k => castTop (ef_1 m p1 p2 p3 p4) k
  have pre1 : ∀ t, Steps p.tables e below (s₁.setTop (mkF m 2 #[.val (.int p1), .val (.int p2), .val (.int p3), .val (.int p4)] [(.int p4), (.int p1)])) t → Steps p.tables e below (s₁.setTop (entryFrame m #[(.int p1), (.int p2), (.int p3), (.int p4)] 4)) t := by
    intro t k
    refine pre0 t ?_
    refine XS.iloadN X0.here hx rfl (hb hby d1_0) rfl ?_
    refine XS.iloadN X0.here hx rfl (hb hby d1_1) rfl ?_
    exact k
  have pre2 : ∀ t, Steps p.tables e below (s₁.setTop (mkF m 10 #[.val (.int p1), .val (.int p2), .val (.int p3), .val (.int p4)] [(.int (f1_s0_10 p1 p4))])) t → Steps p.tables e below (s₁.setTop (entryFrame m #[(.int p1), (.int p2), (.int p3), (.int p4)] 4)) t := by
    intro t k
    by_cases hc2 : p1 = p4
    · have eq3 := (show (f1_s0_10 p1 p4) = (1 : Int32) from by unfold f1_s0_10; simp only [if_pos hc2])
      try rw [eq3] at k
      refine pre1 t ?_
      refine XS.icmpNo X0.here hx rfl (hb hby d1_2) rfl (teq hc2).2 ?_
      show Steps p.tables e below (s₁.setTop (mkF m 5 #[.val (.int p1), .val (.int p2), .val (.int p3), .val (.int p4)] [])) _
      refine XS.iconst X0.here hx rfl (hb hby d1_5) ?_
      refine XS.goto X0.here hx rfl (pc0 := 6) (pc' := 10) rfl (hb hby d1_6) (by decide) (by decide) ?_
      exact k
    · have eq4 := (show (f1_s0_10 p1 p4) = (0 : Int32) from by unfold f1_s0_10; simp only [if_neg hc2])
      try rw [eq4] at k
      refine pre1 t ?_
      refine XS.icmpYes X0.here hx rfl (pc0 := 2) (pc' := 9) rfl (hb hby d1_2) rfl (feq hc2).2 (by decide) (by decide) ?_
      refine XS.iconst X0.here hx rfl (hb hby d1_9) ?_
      exact k
  have pre5 : ∀ t, Steps p.tables e below (s₁.setTop (mkF m 12 #[.val (.int p1), .val (.int p2), .val (.int p3), .val (.int p4)] [(.int p4), (.int p2), (.int (f1_s0_10 p1 p4))])) t → Steps p.tables e below (s₁.setTop (entryFrame m #[(.int p1), (.int p2), (.int p3), (.int p4)] 4)) t := by
    intro t k
    refine pre2 t ?_
    show Steps p.tables e below (s₁.setTop (mkF m 10 #[.val (.int p1), .val (.int p2), .val (.int p3), .val (.int p4)] [(.int (f1_s0_10 p1 p4))])) _
    refine XS.iloadN X0.here hx rfl (hb hby d1_10) rfl ?_
    refine XS.iloadN X0.here hx rfl (hb hby d1_11) rfl ?_
    exact k
  have pre6 : ∀ t, Steps p.tables e below (s₁.setTop (mkF m 20 #[.val (.int p1), .val (.int p2), .val (.int p3), .val (.int p4)] [(.int (f1_s0_20 p2 p4)), (.int (f1_s0_10 p1 p4))])) t → Steps p.tables e below (s₁.setTop (entryFrame m #[(.int p1), (.int p2), (.int p3), (.int p4)] 4)) t := by
    intro t k
    by_cases hc12 : p2 = p4
    · have eq7 := (show (f1_s0_20 p2 p4) = (1 : Int32) from by unfold f1_s0_20; simp only [if_pos hc12])
      try rw [eq7] at k
      refine pre5 t ?_
      refine XS.icmpNo X0.here hx rfl (hb hby d1_12) rfl (teq hc12).2 ?_
      refine XS.iconst X0.here hx rfl (hb hby d1_15) ?_
      show Steps p.tables e below (s₁.setTop (mkF m 16 #[.val (.int p1), .val (.int p2), .val (.int p3), .val (.int p4)] [(.int (1 : Int32)), (.int (f1_s0_10 p1 p4))])) _
      refine XS.goto X0.here hx rfl (pc0 := 16) (pc' := 20) rfl (hb hby d1_16) (by decide) (by decide) ?_
      exact k
    · have eq8 := (show (f1_s0_20 p2 p4) = (0 : Int32) from by unfold f1_s0_20; simp only [if_neg hc12])
      try rw [eq8] at k
      refine pre5 t ?_
      refine XS.icmpYes X0.here hx rfl (pc0 := 12) (pc' := 19) rfl (hb hby d1_12) rfl (feq hc12).2 (by decide) (by decide) ?_
      refine XS.iconst X0.here hx rfl (hb hby d1_19) ?_
      exact k
  have pre9 : ∀ t, Steps p.tables e below (s₁.setTop (mkF m 23 #[.val (.int p1), .val (.int p2), .val (.int p3), .val (.int p4)] [(.int p4), (.int p3), (.int ((f1_s0_10 p1 p4) + (f1_s0_20 p2 p4)))])) t → Steps p.tables e below (s₁.setTop (entryFrame m #[(.int p1), (.int p2), (.int p3), (.int p4)] 4)) t := by
    intro t k
    refine pre6 t ?_
    refine XS.iadd X0.here hx rfl (hb hby d1_20) rfl ?_
    show Steps p.tables e below (s₁.setTop (mkF m 21 #[.val (.int p1), .val (.int p2), .val (.int p3), .val (.int p4)] [(.int ((f1_s0_10 p1 p4) + (f1_s0_20 p2 p4)))])) _
    refine XS.iloadN X0.here hx rfl (hb hby d1_21) rfl ?_
    refine XS.iloadN X0.here hx rfl (hb hby d1_22) rfl ?_
    exact k
  have pre10 : ∀ t, Steps p.tables e below (s₁.setTop (mkF m 31 #[.val (.int p1), .val (.int p2), .val (.int p3), .val (.int p4)] [(.int (f1_s0_31 p3 p4)), (.int ((f1_s0_10 p1 p4) + (f1_s0_20 p2 p4)))])) t → Steps p.tables e below (s₁.setTop (entryFrame m #[(.int p1), (.int p2), (.int p3), (.int p4)] 4)) t := by
    intro t k
    by_cases hc23 : p3 = p4
    · have eq11 := (show (f1_s0_31 p3 p4) = (1 : Int32) from by unfold f1_s0_31; simp only [if_pos hc23])
      try rw [eq11] at k
      refine pre9 t ?_
      refine XS.icmpNo X0.here hx rfl (hb hby d1_23) rfl (teq hc23).2 ?_
      refine XS.iconst X0.here hx rfl (hb hby d1_26) ?_
      show Steps p.tables e below (s₁.setTop (mkF m 27 #[.val (.int p1), .val (.int p2), .val (.int p3), .val (.int p4)] [(.int (1 : Int32)), (.int ((f1_s0_10 p1 p4) + (f1_s0_20 p2 p4)))])) _
      refine XS.goto X0.here hx rfl (pc0 := 27) (pc' := 31) rfl (hb hby d1_27) (by decide) (by decide) ?_
      exact k
    · have eq12 := (show (f1_s0_31 p3 p4) = (0 : Int32) from by unfold f1_s0_31; simp only [if_neg hc23])
      try rw [eq12] at k
      refine pre9 t ?_
      refine XS.icmpYes X0.here hx rfl (pc0 := 23) (pc' := 30) rfl (hb hby d1_23) rfl (feq hc23).2 (by decide) (by decide) ?_
      refine XS.iconst X0.here hx rfl (hb hby d1_30) ?_
      exact k
  have eq13 : (f1 p1 p2 p3 p4) = (((f1_s0_10 p1 p4) + (f1_s0_20 p2 p4)) + (f1_s0_31 p3 p4)) := rfl
  obtain ⟨fs, hr, hrun, hended, hW, hsame⟩ := X0.leave (v := some (.int (((f1_s0_10 p1 p4) + (f1_s0_20 p2 p4)) + (f1_s0_31 p3 p4)))) (fun h => by rw [Bd.returns] at h; cases h)
  refine ⟨_, _, pre10 _ ?_, hrun, hended, _, _, rfl, ?_, ⟨_, rfl⟩, hW, hsame.mono (by decide) (by decide)⟩
  · show Steps p.tables e below (s₁.setTop (mkF m 31 #[.val (.int p1), .val (.int p2), .val (.int p3), .val (.int p4)] [(.int (f1_s0_31 p3 p4)), (.int ((f1_s0_10 p1 p4) + (f1_s0_20 p2 p4)))])) _
    refine XS.iadd X0.here hx rfl (hb hby d1_31) rfl ?_
    show Steps p.tables e below (s₁.setTop (mkF m 32 #[.val (.int p1), .val (.int p2), .val (.int p3), .val (.int p4)] [(.int (((f1_s0_10 p1 p4) + (f1_s0_20 p2 p4)) + (f1_s0_31 p3 p4)))])) _
    exact retI X0 hx Bd.returns (hb hby d1_32) hr
  · show Q1 Z p1 p2 p3 p4 h0 n0 _ s₁.heap _
    rw [e0]
    exact ⟨by rw [eq13], N0, rfl⟩
theorem d13_0 : decode method_3_code 0 = .ok (.iconst (-1), 1) := by decide +kernel
theorem d13_1 : decode method_3_code 1 = .ok (.istore 10, 2) := by decide +kernel
theorem d13_3 : decode method_3_code 3 = .ok (.iload 7, 2) := by decide +kernel
theorem d13_5 : decode method_3_code 5 = .ok (.ifCond .eq 13, 3) := by decide +kernel
theorem d13_8 : decode method_3_code 8 = .ok (.iload 8, 2) := by decide +kernel
theorem d13_10 : decode method_3_code 10 = .ok (.iload_n 0, 1) := by decide +kernel
theorem d13_11 : decode method_3_code 11 = .ok (.if_icmp .ne 7, 3) := by decide +kernel
theorem d13_14 : decode method_3_code 14 = .ok (.iload 9, 2) := by decide +kernel
theorem d13_16 : decode method_3_code 16 = .ok (.istore 10, 2) := by decide +kernel
theorem d13_18 : decode method_3_code 18 = .ok (.iload 4, 2) := by decide +kernel
theorem d13_20 : decode method_3_code 20 = .ok (.ifCond .eq 13, 3) := by decide +kernel
theorem d13_23 : decode method_3_code 23 = .ok (.iload 5, 2) := by decide +kernel
theorem d13_25 : decode method_3_code 25 = .ok (.iload_n 0, 1) := by decide +kernel
theorem d13_26 : decode method_3_code 26 = .ok (.if_icmp .ne 7, 3) := by decide +kernel
theorem d13_29 : decode method_3_code 29 = .ok (.iload 6, 2) := by decide +kernel
theorem d13_31 : decode method_3_code 31 = .ok (.istore 10, 2) := by decide +kernel
theorem d13_33 : decode method_3_code 33 = .ok (.iload_n 1, 1) := by decide +kernel
theorem d13_34 : decode method_3_code 34 = .ok (.ifCond .eq 11, 3) := by decide +kernel
theorem d13_37 : decode method_3_code 37 = .ok (.iload_n 2, 1) := by decide +kernel
theorem d13_38 : decode method_3_code 38 = .ok (.iload_n 0, 1) := by decide +kernel
theorem d13_39 : decode method_3_code 39 = .ok (.if_icmp .ne 6, 3) := by decide +kernel
theorem d13_42 : decode method_3_code 42 = .ok (.iload_n 3, 1) := by decide +kernel
theorem d13_43 : decode method_3_code 43 = .ok (.istore 10, 2) := by decide +kernel
theorem d13_45 : decode method_3_code 45 = .ok (.iload 10, 2) := by decide +kernel
theorem d13_47 : decode method_3_code 47 = .ok (.ireturn, 1) := by decide +kernel
theorem ef_13 (m : MethodId) (x0 : Int32) (x1 : Int32) (x2 : Int32) (x3 : Int32) (x4 : Int32) (x5 : Int32) (x6 : Int32) (x7 : Int32) (x8 : Int32) (x9 : Int32) : entryFrame m #[(.int x0), (.int x1), (.int x2), (.int x3), (.int x4), (.int x5), (.int x6), (.int x7), (.int x8), (.int x9)] 11 = mkF m 0 #[.val (.int x0), .val (.int x1), .val (.int x2), .val (.int x3), .val (.int x4), .val (.int x5), .val (.int x6), .val (.int x7), .val (.int x8), .val (.int x9), .unset] [] := by first | (simp [entryFrame, mkF, argsToLocals, Value.category]; done) | rfl
def f13_l10_18 (p1 : Int32) (p8 : Int32) (p9 : Int32) (p10 : Int32) : Int32 := (if p8 = (0 : Int32) then (-1 : Int32) else (if p9 = p1 then p10 else (-1 : Int32)))
def f13_l10_33 (p1 : Int32) (p5 : Int32) (p6 : Int32) (p7 : Int32) (p8 : Int32) (p9 : Int32) (p10 : Int32) : Int32 := (if p5 = (0 : Int32) then (f13_l10_18 p1 p8 p9 p10) else (if p6 = p1 then p7 else (f13_l10_18 p1 p8 p9 p10)))
def f13 (p1 : Int32) (p2 : Int32) (p3 : Int32) (p4 : Int32) (p5 : Int32) (p6 : Int32) (p7 : Int32) (p8 : Int32) (p9 : Int32) (p10 : Int32) : Int32 := (if p2 = (0 : Int32) then (f13_l10_33 p1 p5 p6 p7 p8 p9 p10) else (if p3 = p1 then p4 else (f13_l10_33 p1 p5 p6 p7 p8 p9 p10)))
def Q13 (Z : State) (p1 : Int32) (p2 : Int32) (p3 : Int32) (p4 : Int32) (p5 : Int32) (p6 : Int32) (p7 : Int32) (p8 : Int32) (p9 : Int32) (p10 : Int32) (h0 : Heap) (n0 : Nat) (v : Option Value) (h : Heap) (L : List Loc) : Prop := v = some (.int (f13 p1 p2 p3 p4 p5 p6 p7 p8 p9 p10)) ∧ Fr n0 L ∧ h = h0
set_option maxRecDepth 65536 in
set_option maxHeartbeats 40000000 in
theorem rm13 (l : Launch) (Z : State) (a0 : Array Value) (hw : ∀ d ∈ tables_1, d.before a0 Z = true) (ws : List Jvm.Cond) (p1 : Int32) (p2 : Int32) (p3 : Int32) (p4 : Int32) (p5 : Int32) (p6 : Int32) (p7 : Int32) (p8 : Int32) (p9 : Int32) (p10 : Int32) (h0 : Heap) (n0 : Nat) (Z0 : n0 ≤ h0.size) :
    MetFree l (⟨"com/example/podflow/podflow/simulation/BallotVotePinLaw", "firstTo", "(IZIIZIIZII)I"⟩ : MethodName) (head1 (Jvm.Cond.code (⟨"com/example/podflow/podflow/simulation/BallotVotePinLaw", "firstTo", "(IZIIZIIZII)I"⟩ : MethodName) method_3_code 11 (some .int) :: ws) ({ frames := 0, cells := 0, slots := 0, locals := 0 } : Room)) (fun a U => a = #[(.int p1), (.int p2), (.int p3), (.int p4), (.int p5), (.int p6), (.int p7), (.int p8), (.int p9), (.int p10)] ∧ Z.Warmed39 U.vm ∧ U.heap = h0) (fun _ _ _ _ _ => True) (fun _ U o U' => ∃ v L, o = .returned v ∧ Q13 Z p1 p2 p3 p4 p5 p6 p7 p8 p9 p10 h0 n0 v U'.heap L ∧ FrameEnd U o U' L ({ frames := 0, cells := 0, slots := 0, locals := 0 } : Room).cells ({ frames := 0, cells := 0, slots := 0, locals := 0 } : Room).slots) := by
  refine MetFree.of_bodySF (plainFor_of_name pn_0) hisR ?_
  intro p e s m args below meth c s₁ Bd hml0 hP hK
  obtain ⟨rfl, hZ, hh⟩ := hP
  have hx := Bd.exec
  have hby := Bd.bytes
  have hml : c.maxLocals = 11 := hml0
  have hown : s.vm.findClass "com/example/podflow/podflow/simulation/BallotVotePinLaw" = some m.cls := findClass_of_methodNamed Bd.named
  have hnm := (name_of_methodNamed Bd.named Bd.method).1
  have X0 : Stand p l e ({ frames := 0, cells := 0, slots := 0, locals := 0 } : Room) s m #[(.int p1), (.int p2), (.int p3), (.int p4), (.int p5), (.int p6), (.int p7), (.int p8), (.int p9), (.int p10)] below meth c s₁ [] 0 0 := Stand.of_body Bd
  have e0 : s₁.heap = h0 := by rw [← hh, Bd.state]; rfl
  have N0 := Fr.nil n0
  have pre0 : ∀ t, Steps p.tables e below (s₁.setTop (mkF m 0 #[.val (.int p1), .val (.int p2), .val (.int p3), .val (.int p4), .val (.int p5), .val (.int p6), .val (.int p7), .val (.int p8), .val (.int p9), .val (.int p10), .unset] [])) t → Steps p.tables e below (s₁.setTop (entryFrame m #[(.int p1), (.int p2), (.int p3), (.int p4), (.int p5), (.int p6), (.int p7), (.int p8), (.int p9), (.int p10)] 11)) t := fun t k => castTop (ef_13 m p1 p2 p3 p4 p5 p6 p7 p8 p9 p10) k
  have pre1 : ∀ t, Steps p.tables e below (s₁.setTop (mkF m 5 #[.val (.int p1), .val (.int p2), .val (.int p3), .val (.int p4), .val (.int p5), .val (.int p6), .val (.int p7), .val (.int p8), .val (.int p9), .val (.int p10), .val (.int (-1 : Int32))] [(.int p8)])) t → Steps p.tables e below (s₁.setTop (entryFrame m #[(.int p1), (.int p2), (.int p3), (.int p4), (.int p5), (.int p6), (.int p7), (.int p8), (.int p9), (.int p10)] 11)) t := by
    intro t k
    refine pre0 t ?_
    refine XS.iconst X0.here hx rfl (hb hby d13_0) ?_
    refine XS.istore X0.here hx rfl (hb hby d13_1) rfl (l' := #[.val (.int p1), .val (.int p2), .val (.int p3), .val (.int p4), .val (.int p5), .val (.int p6), .val (.int p7), .val (.int p8), .val (.int p9), .val (.int p10), .val (.int (-1 : Int32))]) rfl ?_
    refine XS.iload X0.here hx rfl (hb hby d13_3) rfl ?_
    exact k
  have pre2 : ∀ t, Steps p.tables e below (s₁.setTop (mkF m 18 #[.val (.int p1), .val (.int p2), .val (.int p3), .val (.int p4), .val (.int p5), .val (.int p6), .val (.int p7), .val (.int p8), .val (.int p9), .val (.int p10), .val (.int (f13_l10_18 p1 p8 p9 p10))] [])) t → Steps p.tables e below (s₁.setTop (entryFrame m #[(.int p1), (.int p2), (.int p3), (.int p4), (.int p5), (.int p6), (.int p7), (.int p8), (.int p9), (.int p10)] 11)) t := by
    intro t k
    by_cases hc5 : p8 = (0 : Int32)
    · have eq3 := (show (f13_l10_18 p1 p8 p9 p10) = (-1 : Int32) from by unfold f13_l10_18; simp only [if_pos hc5])
      try rw [eq3] at k
      refine pre1 t ?_
      show Steps p.tables e below (s₁.setTop (mkF m 5 #[.val (.int p1), .val (.int p2), .val (.int p3), .val (.int p4), .val (.int p5), .val (.int p6), .val (.int p7), .val (.int p8), .val (.int p9), .val (.int p10), .val (.int (-1 : Int32))] [(.int p8)])) _
      refine XS.ifYes X0.here hx rfl (pc0 := 5) (pc' := 18) rfl (hb hby d13_5) rfl ((if0 _ _).trans (teq hc5).1) (by decide) (by decide) ?_
      exact k
    · have pre4 : ∀ t, Steps p.tables e below (s₁.setTop (mkF m 11 #[.val (.int p1), .val (.int p2), .val (.int p3), .val (.int p4), .val (.int p5), .val (.int p6), .val (.int p7), .val (.int p8), .val (.int p9), .val (.int p10), .val (.int (-1 : Int32))] [(.int p1), (.int p9)])) t → Steps p.tables e below (s₁.setTop (entryFrame m #[(.int p1), (.int p2), (.int p3), (.int p4), (.int p5), (.int p6), (.int p7), (.int p8), (.int p9), (.int p10)] 11)) t := by
        intro t k
        refine pre1 t ?_
        refine XS.ifNo X0.here hx rfl (hb hby d13_5) rfl ((if0 _ _).trans (feq hc5).1) ?_
        refine XS.iload X0.here hx rfl (hb hby d13_8) rfl ?_
        refine XS.iloadN X0.here hx rfl (hb hby d13_10) rfl ?_
        exact k
      by_cases hc11 : p9 = p1
      · have eq5 := (show (f13_l10_18 p1 p8 p9 p10) = p10 from by unfold f13_l10_18; simp only [if_neg hc5, if_pos hc11])
        try rw [eq5] at k
        refine pre4 t ?_
        show Steps p.tables e below (s₁.setTop (mkF m 11 #[.val (.int p1), .val (.int p2), .val (.int p3), .val (.int p4), .val (.int p5), .val (.int p6), .val (.int p7), .val (.int p8), .val (.int p9), .val (.int p10), .val (.int (-1 : Int32))] [(.int p1), (.int p9)])) _
        refine XS.icmpNo X0.here hx rfl (hb hby d13_11) rfl (teq hc11).2 ?_
        refine XS.iload X0.here hx rfl (hb hby d13_14) rfl ?_
        refine XS.istore X0.here hx rfl (hb hby d13_16) rfl (l' := #[.val (.int p1), .val (.int p2), .val (.int p3), .val (.int p4), .val (.int p5), .val (.int p6), .val (.int p7), .val (.int p8), .val (.int p9), .val (.int p10), .val (.int p10)]) rfl ?_
        exact k
      · have eq6 := (show (f13_l10_18 p1 p8 p9 p10) = (-1 : Int32) from by unfold f13_l10_18; simp only [if_neg hc5, if_neg hc11])
        try rw [eq6] at k
        refine pre4 t ?_
        refine XS.icmpYes X0.here hx rfl (pc0 := 11) (pc' := 18) rfl (hb hby d13_11) rfl (feq hc11).2 (by decide) (by decide) ?_
        exact k
  have pre7 : ∀ t, Steps p.tables e below (s₁.setTop (mkF m 20 #[.val (.int p1), .val (.int p2), .val (.int p3), .val (.int p4), .val (.int p5), .val (.int p6), .val (.int p7), .val (.int p8), .val (.int p9), .val (.int p10), .val (.int (f13_l10_18 p1 p8 p9 p10))] [(.int p5)])) t → Steps p.tables e below (s₁.setTop (entryFrame m #[(.int p1), (.int p2), (.int p3), (.int p4), (.int p5), (.int p6), (.int p7), (.int p8), (.int p9), (.int p10)] 11)) t := by
    intro t k
    refine pre2 t ?_
    show Steps p.tables e below (s₁.setTop (mkF m 18 #[.val (.int p1), .val (.int p2), .val (.int p3), .val (.int p4), .val (.int p5), .val (.int p6), .val (.int p7), .val (.int p8), .val (.int p9), .val (.int p10), .val (.int (f13_l10_18 p1 p8 p9 p10))] [])) _
    refine XS.iload X0.here hx rfl (hb hby d13_18) rfl ?_
    exact k
  have pre8 : ∀ t, Steps p.tables e below (s₁.setTop (mkF m 33 #[.val (.int p1), .val (.int p2), .val (.int p3), .val (.int p4), .val (.int p5), .val (.int p6), .val (.int p7), .val (.int p8), .val (.int p9), .val (.int p10), .val (.int (f13_l10_33 p1 p5 p6 p7 p8 p9 p10))] [])) t → Steps p.tables e below (s₁.setTop (entryFrame m #[(.int p1), (.int p2), (.int p3), (.int p4), (.int p5), (.int p6), (.int p7), (.int p8), (.int p9), (.int p10)] 11)) t := by
    intro t k
    by_cases hc20 : p5 = (0 : Int32)
    · have eq9 := (show (f13_l10_33 p1 p5 p6 p7 p8 p9 p10) = (f13_l10_18 p1 p8 p9 p10) from by unfold f13_l10_33; simp only [if_pos hc20])
      try rw [eq9] at k
      refine pre7 t ?_
      refine XS.ifYes X0.here hx rfl (pc0 := 20) (pc' := 33) rfl (hb hby d13_20) rfl ((if0 _ _).trans (teq hc20).1) (by decide) (by decide) ?_
      exact k
    · have pre10 : ∀ t, Steps p.tables e below (s₁.setTop (mkF m 26 #[.val (.int p1), .val (.int p2), .val (.int p3), .val (.int p4), .val (.int p5), .val (.int p6), .val (.int p7), .val (.int p8), .val (.int p9), .val (.int p10), .val (.int (f13_l10_18 p1 p8 p9 p10))] [(.int p1), (.int p6)])) t → Steps p.tables e below (s₁.setTop (entryFrame m #[(.int p1), (.int p2), (.int p3), (.int p4), (.int p5), (.int p6), (.int p7), (.int p8), (.int p9), (.int p10)] 11)) t := by
        intro t k
        refine pre7 t ?_
        refine XS.ifNo X0.here hx rfl (hb hby d13_20) rfl ((if0 _ _).trans (feq hc20).1) ?_
        refine XS.iload X0.here hx rfl (hb hby d13_23) rfl ?_
        show Steps p.tables e below (s₁.setTop (mkF m 25 #[.val (.int p1), .val (.int p2), .val (.int p3), .val (.int p4), .val (.int p5), .val (.int p6), .val (.int p7), .val (.int p8), .val (.int p9), .val (.int p10), .val (.int (f13_l10_18 p1 p8 p9 p10))] [(.int p6)])) _
        refine XS.iloadN X0.here hx rfl (hb hby d13_25) rfl ?_
        exact k
      by_cases hc26 : p6 = p1
      · have eq11 := (show (f13_l10_33 p1 p5 p6 p7 p8 p9 p10) = p7 from by unfold f13_l10_33; simp only [if_neg hc20, if_pos hc26])
        try rw [eq11] at k
        refine pre10 t ?_
        refine XS.icmpNo X0.here hx rfl (hb hby d13_26) rfl (teq hc26).2 ?_
        refine XS.iload X0.here hx rfl (hb hby d13_29) rfl ?_
        refine XS.istore X0.here hx rfl (hb hby d13_31) rfl (l' := #[.val (.int p1), .val (.int p2), .val (.int p3), .val (.int p4), .val (.int p5), .val (.int p6), .val (.int p7), .val (.int p8), .val (.int p9), .val (.int p10), .val (.int p7)]) rfl ?_
        exact k
      · have eq12 := (show (f13_l10_33 p1 p5 p6 p7 p8 p9 p10) = (f13_l10_18 p1 p8 p9 p10) from by unfold f13_l10_33; simp only [if_neg hc20, if_neg hc26])
        try rw [eq12] at k
        refine pre10 t ?_
        show Steps p.tables e below (s₁.setTop (mkF m 26 #[.val (.int p1), .val (.int p2), .val (.int p3), .val (.int p4), .val (.int p5), .val (.int p6), .val (.int p7), .val (.int p8), .val (.int p9), .val (.int p10), .val (.int (f13_l10_18 p1 p8 p9 p10))] [(.int p1), (.int p6)])) _
        refine XS.icmpYes X0.here hx rfl (pc0 := 26) (pc' := 33) rfl (hb hby d13_26) rfl (feq hc26).2 (by decide) (by decide) ?_
        exact k
  have pre13 : ∀ t, Steps p.tables e below (s₁.setTop (mkF m 34 #[.val (.int p1), .val (.int p2), .val (.int p3), .val (.int p4), .val (.int p5), .val (.int p6), .val (.int p7), .val (.int p8), .val (.int p9), .val (.int p10), .val (.int (f13_l10_33 p1 p5 p6 p7 p8 p9 p10))] [(.int p2)])) t → Steps p.tables e below (s₁.setTop (entryFrame m #[(.int p1), (.int p2), (.int p3), (.int p4), (.int p5), (.int p6), (.int p7), (.int p8), (.int p9), (.int p10)] 11)) t := by
    intro t k
    refine pre8 t ?_
    refine XS.iloadN X0.here hx rfl (hb hby d13_33) rfl ?_
    exact k
  by_cases hc34 : p2 = (0 : Int32)
  · have eq14 : (f13 p1 p2 p3 p4 p5 p6 p7 p8 p9 p10) = (f13_l10_33 p1 p5 p6 p7 p8 p9 p10) := by unfold f13; simp only [if_pos hc34]
    obtain ⟨fs, hr, hrun, hended, hW, hsame⟩ := X0.leave (v := some (.int (f13_l10_33 p1 p5 p6 p7 p8 p9 p10))) (fun h => by rw [Bd.returns] at h; cases h)
    refine ⟨_, _, pre13 _ ?_, hrun, hended, _, _, rfl, ?_, ⟨_, rfl⟩, hW, hsame.mono (by decide) (by decide)⟩
    · show Steps p.tables e below (s₁.setTop (mkF m 34 #[.val (.int p1), .val (.int p2), .val (.int p3), .val (.int p4), .val (.int p5), .val (.int p6), .val (.int p7), .val (.int p8), .val (.int p9), .val (.int p10), .val (.int (f13_l10_33 p1 p5 p6 p7 p8 p9 p10))] [(.int p2)])) _
      refine XS.ifYes X0.here hx rfl (pc0 := 34) (pc' := 45) rfl (hb hby d13_34) rfl ((if0 _ _).trans (teq hc34).1) (by decide) (by decide) ?_
      refine XS.iload X0.here hx rfl (hb hby d13_45) rfl ?_
      show Steps p.tables e below (s₁.setTop (mkF m 47 #[.val (.int p1), .val (.int p2), .val (.int p3), .val (.int p4), .val (.int p5), .val (.int p6), .val (.int p7), .val (.int p8), .val (.int p9), .val (.int p10), .val (.int (f13_l10_33 p1 p5 p6 p7 p8 p9 p10))] [(.int (f13_l10_33 p1 p5 p6 p7 p8 p9 p10))])) _
      exact retI X0 hx Bd.returns (hb hby d13_47) hr
    · show Q13 Z p1 p2 p3 p4 p5 p6 p7 p8 p9 p10 h0 n0 _ s₁.heap _
      rw [e0]
      exact ⟨by rw [eq14], N0, rfl⟩
  · have pre15 : ∀ t, Steps p.tables e below (s₁.setTop (mkF m 39 #[.val (.int p1), .val (.int p2), .val (.int p3), .val (.int p4), .val (.int p5), .val (.int p6), .val (.int p7), .val (.int p8), .val (.int p9), .val (.int p10), .val (.int (f13_l10_33 p1 p5 p6 p7 p8 p9 p10))] [(.int p1), (.int p3)])) t → Steps p.tables e below (s₁.setTop (entryFrame m #[(.int p1), (.int p2), (.int p3), (.int p4), (.int p5), (.int p6), (.int p7), (.int p8), (.int p9), (.int p10)] 11)) t := by
      intro t k
      refine pre13 t ?_
      refine XS.ifNo X0.here hx rfl (hb hby d13_34) rfl ((if0 _ _).trans (feq hc34).1) ?_
      refine XS.iloadN X0.here hx rfl (hb hby d13_37) rfl ?_
      refine XS.iloadN X0.here hx rfl (hb hby d13_38) rfl ?_
      exact k
    by_cases hc39 : p3 = p1
    · have eq16 : (f13 p1 p2 p3 p4 p5 p6 p7 p8 p9 p10) = p4 := by unfold f13; simp only [if_neg hc34, if_pos hc39]
      obtain ⟨fs, hr, hrun, hended, hW, hsame⟩ := X0.leave (v := some (.int p4)) (fun h => by rw [Bd.returns] at h; cases h)
      refine ⟨_, _, pre15 _ ?_, hrun, hended, _, _, rfl, ?_, ⟨_, rfl⟩, hW, hsame.mono (by decide) (by decide)⟩
      · show Steps p.tables e below (s₁.setTop (mkF m 39 #[.val (.int p1), .val (.int p2), .val (.int p3), .val (.int p4), .val (.int p5), .val (.int p6), .val (.int p7), .val (.int p8), .val (.int p9), .val (.int p10), .val (.int (f13_l10_33 p1 p5 p6 p7 p8 p9 p10))] [(.int p1), (.int p3)])) _
        refine XS.icmpNo X0.here hx rfl (hb hby d13_39) rfl (teq hc39).2 ?_
        show Steps p.tables e below (s₁.setTop (mkF m 42 #[.val (.int p1), .val (.int p2), .val (.int p3), .val (.int p4), .val (.int p5), .val (.int p6), .val (.int p7), .val (.int p8), .val (.int p9), .val (.int p10), .val (.int (f13_l10_33 p1 p5 p6 p7 p8 p9 p10))] [])) _
        refine XS.iloadN X0.here hx rfl (hb hby d13_42) rfl ?_
        refine XS.istore X0.here hx rfl (hb hby d13_43) rfl (l' := #[.val (.int p1), .val (.int p2), .val (.int p3), .val (.int p4), .val (.int p5), .val (.int p6), .val (.int p7), .val (.int p8), .val (.int p9), .val (.int p10), .val (.int p4)]) rfl ?_
        refine XS.iload X0.here hx rfl (hb hby d13_45) rfl ?_
        show Steps p.tables e below (s₁.setTop (mkF m 47 #[.val (.int p1), .val (.int p2), .val (.int p3), .val (.int p4), .val (.int p5), .val (.int p6), .val (.int p7), .val (.int p8), .val (.int p9), .val (.int p10), .val (.int p4)] [(.int p4)])) _
        exact retI X0 hx Bd.returns (hb hby d13_47) hr
      · show Q13 Z p1 p2 p3 p4 p5 p6 p7 p8 p9 p10 h0 n0 _ s₁.heap _
        rw [e0]
        exact ⟨by rw [eq16], N0, rfl⟩
    · have eq17 : (f13 p1 p2 p3 p4 p5 p6 p7 p8 p9 p10) = (f13_l10_33 p1 p5 p6 p7 p8 p9 p10) := by unfold f13; simp only [if_neg hc34, if_neg hc39]
      obtain ⟨fs, hr, hrun, hended, hW, hsame⟩ := X0.leave (v := some (.int (f13_l10_33 p1 p5 p6 p7 p8 p9 p10))) (fun h => by rw [Bd.returns] at h; cases h)
      refine ⟨_, _, pre15 _ ?_, hrun, hended, _, _, rfl, ?_, ⟨_, rfl⟩, hW, hsame.mono (by decide) (by decide)⟩
      · show Steps p.tables e below (s₁.setTop (mkF m 39 #[.val (.int p1), .val (.int p2), .val (.int p3), .val (.int p4), .val (.int p5), .val (.int p6), .val (.int p7), .val (.int p8), .val (.int p9), .val (.int p10), .val (.int (f13_l10_33 p1 p5 p6 p7 p8 p9 p10))] [(.int p1), (.int p3)])) _
        refine XS.icmpYes X0.here hx rfl (pc0 := 39) (pc' := 45) rfl (hb hby d13_39) rfl (feq hc39).2 (by decide) (by decide) ?_
        refine XS.iload X0.here hx rfl (hb hby d13_45) rfl ?_
        show Steps p.tables e below (s₁.setTop (mkF m 47 #[.val (.int p1), .val (.int p2), .val (.int p3), .val (.int p4), .val (.int p5), .val (.int p6), .val (.int p7), .val (.int p8), .val (.int p9), .val (.int p10), .val (.int (f13_l10_33 p1 p5 p6 p7 p8 p9 p10))] [(.int (f13_l10_33 p1 p5 p6 p7 p8 p9 p10))])) _
        exact retI X0 hx Bd.returns (hb hby d13_47) hr
      · show Q13 Z p1 p2 p3 p4 p5 p6 p7 p8 p9 p10 h0 n0 _ s₁.heap _
        rw [e0]
        exact ⟨by rw [eq17], N0, rfl⟩
theorem pn_1 : plainName "java/lang/Record" = true := by first | (simp [plainName, overriddenIn]; done) | decide +kernel
theorem d3_0 : decode jdk_30_method_1_code 0 = .ok (.aload_n 0, 1) := by decide +kernel
theorem d3_1 : decode jdk_30_method_1_code 1 = .ok (.invokespecial 1, 3) := by decide +kernel
theorem d3_4 : decode jdk_30_method_1_code 4 = .ok (.return_, 1) := by decide +kernel
theorem ef_3 (m : MethodId) (x0 : Addr) : entryFrame m #[(.ref x0)] 1 = mkF m 0 #[.val (.ref x0)] [] := by first | (simp [entryFrame, mkF, argsToLocals, Value.category]; done) | rfl
def Q3 (Z : State) (a1 : Addr) (h0 : Heap) (n0 : Nat) (v : Option Value) (h : Heap) (L : List Loc) : Prop := v = none ∧ Fr n0 L ∧ h = h0
set_option maxRecDepth 65536 in
set_option maxHeartbeats 40000000 in
theorem rm3 (l : Launch) (Z : State) (a0 : Array Value) (hw : ∀ d ∈ tables_1, d.before a0 Z = true) (ws : List Jvm.Cond) (a1 : Addr) (h0 : Heap) (n0 : Nat) (Z0 : n0 ≤ h0.size) :
    MetFree l (⟨"java/lang/Record", "<init>", "()V"⟩ : MethodName) (head1 (Jvm.Cond.code (⟨"java/lang/Record", "<init>", "()V"⟩ : MethodName) jdk_30_method_1_code 1 none :: ws) ({ frames := 1, cells := 0, slots := 0, locals := 12 } : Room)) (fun a U => a = #[(.ref a1)] ∧ Z.Warmed39 U.vm ∧ U.heap = h0) (fun _ _ _ _ _ => True) (fun _ U o U' => ∃ v L, o = .returned v ∧ Q3 Z a1 h0 n0 v U'.heap L ∧ FrameEnd U o U' L ({ frames := 1, cells := 0, slots := 0, locals := 12 } : Room).cells ({ frames := 1, cells := 0, slots := 0, locals := 12 } : Room).slots) := by
  refine MetFree.of_bodySF (plainFor_of_name pn_1) hisR ?_
  intro p e s m args below meth c s₁ Bd hml0 hP hK
  obtain ⟨rfl, hZ, hh⟩ := hP
  have hx := Bd.exec
  have hby := Bd.bytes
  have hml : c.maxLocals = 1 := hml0
  have hown : s.vm.findClass "java/lang/Record" = some m.cls := findClass_of_methodNamed Bd.named
  have hnm := (name_of_methodNamed Bd.named Bd.method).1
  have X0 : Stand p l e ({ frames := 1, cells := 0, slots := 0, locals := 12 } : Room) s m #[(.ref a1)] below meth c s₁ [] 0 0 := Stand.of_body Bd
  have e0 : s₁.heap = h0 := by rw [← hh, Bd.state]; rfl
  have N0 := Fr.nil n0
  have pre0 : ∀ t, Steps p.tables e below (s₁.setTop (mkF m 0 #[.val (.ref a1)] [])) t → Steps p.tables e below (s₁.setTop (entryFrame m #[(.ref a1)] 1)) t := fun t k => castTop (ef_3 m a1) k
  obtain ⟨T2, X2, e2, st2⟩ := initO X0 hx hZ hown (hw _ (List.mem_of_getElem? (i := 17) rfl)) (hw _ (List.mem_of_getElem? (i := 18) rfl)) (hw _ (List.mem_of_getElem? (i := 19) rfl)) e0 (g := (mkF m 1 #[.val (.ref a1)] [(.ref a1)])) rfl (by rw [hml]; rfl) rfl (hb hby d3_1) (by decide) (W := 0) (by show 2 * 0 + _ ≤ _; exact Nat.le_of_eq rfl) (by decide)
  obtain ⟨fs, hr, hrun, hended, hW, hsame⟩ := X2.leave (v := none) (fun _ => rfl)
  refine ⟨_, _, pre0 _ ?_, hrun, hended, _, _, rfl, ?_, ⟨_, rfl⟩, hW, hsame.mono (by decide) (by decide)⟩
  · show Steps p.tables e below (s₁.setTop (mkF m 0 #[.val (.ref a1)] [])) _
    refine XS.aloadN X0.here hx rfl (hb hby d3_0) rfl rfl ?_
    show Steps p.tables e below (s₁.setTop (mkF m 1 #[.val (.ref a1)] [(.ref a1)])) _
    refine st2 _ ?_
    show Steps p.tables e below (T2.setTop (mkF m 4 #[.val (.ref a1)] [])) _
    exact X2.returnOut hx Bd.returns (hb hby d3_4) hr
  · show Q3 Z a1 h0 n0 _ T2.heap _
    rw [e2]
    exact ⟨rfl, N0, rfl⟩
theorem pd_0 : parseMethodDescriptor "()V" = some ⟨[], none⟩ := by decide +kernel
theorem pn_2 : plainName "com/example/podflow/podflow/simulation/Pickup" = true := by first | (simp [plainName, overriddenIn]; done) | decide +kernel
theorem d2_0 : decode prog_63_method_1_code 0 = .ok (.aload_n 0, 1) := by decide +kernel
theorem d2_1 : decode prog_63_method_1_code 1 = .ok (.invokespecial 1, 3) := by decide +kernel
theorem d2_4 : decode prog_63_method_1_code 4 = .ok (.aload_n 0, 1) := by decide +kernel
theorem d2_5 : decode prog_63_method_1_code 5 = .ok (.iload_n 1, 1) := by decide +kernel
theorem d2_6 : decode prog_63_method_1_code 6 = .ok (.putfield 7, 3) := by decide +kernel
theorem d2_9 : decode prog_63_method_1_code 9 = .ok (.aload_n 0, 1) := by decide +kernel
theorem d2_10 : decode prog_63_method_1_code 10 = .ok (.lload_n 2, 1) := by decide +kernel
theorem d2_11 : decode prog_63_method_1_code 11 = .ok (.putfield 13, 3) := by decide +kernel
theorem d2_14 : decode prog_63_method_1_code 14 = .ok (.aload_n 0, 1) := by decide +kernel
theorem d2_15 : decode prog_63_method_1_code 15 = .ok (.iload 4, 2) := by decide +kernel
theorem d2_17 : decode prog_63_method_1_code 17 = .ok (.putfield 17, 3) := by decide +kernel
theorem d2_20 : decode prog_63_method_1_code 20 = .ok (.aload_n 0, 1) := by decide +kernel
theorem d2_21 : decode prog_63_method_1_code 21 = .ok (.iload 5, 2) := by decide +kernel
theorem d2_23 : decode prog_63_method_1_code 23 = .ok (.putfield 20, 3) := by decide +kernel
theorem d2_26 : decode prog_63_method_1_code 26 = .ok (.return_, 1) := by decide +kernel
theorem ef_2 (m : MethodId) (x0 : Addr) (x1 : Int32) (x2 : Int64) (x3 : Int32) (x4 : Int32) : entryFrame m #[(.ref x0), (.int x1), (.long x2), (.int x3), (.int x4)] 6 = mkF m 0 #[.val (.ref x0), .val (.int x1), .val (.long x2), .second, .val (.int x3), .val (.int x4)] [] := by first | (simp [entryFrame, mkF, argsToLocals, Value.category]; done) | rfl
def f2_o0 (p2 : Int32) (q3 : Int64) (p4 : Int32) (p5 : Int32) (w_vehicle_a1 : Int32) (w_time_a1 : Int64) (w_emptyFrom_a1 : Int32) (w_emptyTo_a1 : Int32) : Int32 := p2
def f2_o1 (p2 : Int32) (q3 : Int64) (p4 : Int32) (p5 : Int32) (w_vehicle_a1 : Int32) (w_time_a1 : Int64) (w_emptyFrom_a1 : Int32) (w_emptyTo_a1 : Int32) : Int64 := q3
def f2_o2 (p2 : Int32) (q3 : Int64) (p4 : Int32) (p5 : Int32) (w_vehicle_a1 : Int32) (w_time_a1 : Int64) (w_emptyFrom_a1 : Int32) (w_emptyTo_a1 : Int32) : Int32 := p4
def f2_o3 (p2 : Int32) (q3 : Int64) (p4 : Int32) (p5 : Int32) (w_vehicle_a1 : Int32) (w_time_a1 : Int64) (w_emptyFrom_a1 : Int32) (w_emptyTo_a1 : Int32) : Int32 := p5
def Q2 (Z : State) (a1 : Addr) (p2 : Int32) (q3 : Int64) (p4 : Int32) (p5 : Int32) (w_vehicle_a1 : Int32) (w_time_a1 : Int64) (w_emptyFrom_a1 : Int32) (w_emptyTo_a1 : Int32) (h0 : Heap) (n0 : Nat) (v : Option Value) (h : Heap) (L : List Loc) : Prop := v = none ∧ Fr n0 L ∧ Keep h0 h [a1] ∧ Fld Z h a1 "com/example/podflow/podflow/simulation/Pickup" "vehicle" "I" (.int (f2_o0 p2 q3 p4 p5 w_vehicle_a1 w_time_a1 w_emptyFrom_a1 w_emptyTo_a1)) ∧ Fld Z h a1 "com/example/podflow/podflow/simulation/Pickup" "time" "J" (.long (f2_o1 p2 q3 p4 p5 w_vehicle_a1 w_time_a1 w_emptyFrom_a1 w_emptyTo_a1)) ∧ Fld Z h a1 "com/example/podflow/podflow/simulation/Pickup" "emptyFrom" "I" (.int (f2_o2 p2 q3 p4 p5 w_vehicle_a1 w_time_a1 w_emptyFrom_a1 w_emptyTo_a1)) ∧ Fld Z h a1 "com/example/podflow/podflow/simulation/Pickup" "emptyTo" "I" (.int (f2_o3 p2 q3 p4 p5 w_vehicle_a1 w_time_a1 w_emptyFrom_a1 w_emptyTo_a1))
set_option maxRecDepth 65536 in
set_option maxHeartbeats 40000000 in
theorem rm2 (l : Launch) (Z : State) (a0 : Array Value) (hw : ∀ d ∈ tables_1, d.before a0 Z = true) (ws : List Jvm.Cond) (a1 : Addr) (p2 : Int32) (q3 : Int64) (p4 : Int32) (p5 : Int32) (w_vehicle_a1 : Int32) (w_time_a1 : Int64) (w_emptyFrom_a1 : Int32) (w_emptyTo_a1 : Int32) (h0 : Heap) (n0 : Nat) (Z0 : n0 ≤ h0.size) (E_a1 : Exa Z h0 a1 "com/example/podflow/podflow/simulation/Pickup") (g_a1 : n0 ≤ a1) (F_vehicle_a1 : Fld Z h0 a1 "com/example/podflow/podflow/simulation/Pickup" "vehicle" "I" (.int w_vehicle_a1)) (F_time_a1 : Fld Z h0 a1 "com/example/podflow/podflow/simulation/Pickup" "time" "J" (.long w_time_a1)) (F_emptyFrom_a1 : Fld Z h0 a1 "com/example/podflow/podflow/simulation/Pickup" "emptyFrom" "I" (.int w_emptyFrom_a1)) (F_emptyTo_a1 : Fld Z h0 a1 "com/example/podflow/podflow/simulation/Pickup" "emptyTo" "I" (.int w_emptyTo_a1)) :
    MetFree l (⟨"com/example/podflow/podflow/simulation/Pickup", "<init>", "(IJII)V"⟩ : MethodName) (head1 (Jvm.Cond.code (⟨"com/example/podflow/podflow/simulation/Pickup", "<init>", "(IJII)V"⟩ : MethodName) prog_63_method_1_code 6 none :: ws) ({ frames := 2, cells := 0, slots := 0, locals := 24 } : Room)) (fun a U => a = #[(.ref a1), (.int p2), (.long q3), (.int p4), (.int p5)] ∧ Z.Warmed39 U.vm ∧ U.heap = h0) (fun _ _ _ _ _ => True) (fun _ U o U' => ∃ v L, o = .returned v ∧ Q2 Z a1 p2 q3 p4 p5 w_vehicle_a1 w_time_a1 w_emptyFrom_a1 w_emptyTo_a1 h0 n0 v U'.heap L ∧ FrameEnd U o U' L ({ frames := 2, cells := 0, slots := 0, locals := 24 } : Room).cells ({ frames := 2, cells := 0, slots := 0, locals := 24 } : Room).slots) := by
  refine MetFree.of_bodySF (plainFor_of_name pn_2) hisR ?_
  intro p e s m args below meth c s₁ Bd hml0 hP hK
  obtain ⟨rfl, hZ, hh⟩ := hP
  have hx := Bd.exec
  have hby := Bd.bytes
  have hml : c.maxLocals = 6 := hml0
  have hown : s.vm.findClass "com/example/podflow/podflow/simulation/Pickup" = some m.cls := findClass_of_methodNamed Bd.named
  have hnm := (name_of_methodNamed Bd.named Bd.method).1
  have X0 : Stand p l e ({ frames := 2, cells := 0, slots := 0, locals := 24 } : Room) s m #[(.ref a1), (.int p2), (.long q3), (.int p4), (.int p5)] below meth c s₁ [] 0 0 := Stand.of_body Bd
  have e0 : s₁.heap = h0 := by rw [← hh, Bd.state]; rfl
  have N0 := Fr.nil n0
  have pre0 : ∀ t, Steps p.tables e below (s₁.setTop (mkF m 0 #[.val (.ref a1), .val (.int p2), .val (.long q3), .second, .val (.int p4), .val (.int p5)] [])) t → Steps p.tables e below (s₁.setTop (entryFrame m #[(.ref a1), (.int p2), (.long q3), (.int p4), (.int p5)] 6)) t := fun t k => castTop (ef_2 m a1 p2 q3 p4 p5) k
  obtain ⟨_, _, ⟨T6, L6, k6, n6⟩, -, X6, ⟨Lc6, hQ6, l6, y6, z6⟩, st6⟩ := X0.specialBack hx (y := (⟨"java/lang/Record", "<init>", "()V"⟩ : MethodName)) rfl hown (mvT hZ (hw _ (List.mem_of_getElem? (i := 12) rfl))) (mvT hZ (hw _ (List.mem_of_getElem? (i := 13) rfl))) (mvT hZ (hw _ (List.mem_of_getElem? (i := 16) rfl))) (by decide) (backOf (W := 0) (rm3 l Z a0 hw [] a1 h0 n0 Z0 ) hZ (hw _ (List.mem_of_getElem? (i := 16) rfl)) (hw _ (List.mem_of_getElem? (i := 15) rfl)) (by decide) (by decide)) (g := (mkF m 1 #[.val (.ref a1), .val (.int p2), .val (.long q3), .second, .val (.int p4), .val (.int p5)] [(.ref a1)])) rfl (by rw [hml]; rfl) (Steps.refl _) (a := a1) (argsL := []) (rest := []) (lenOf pd_0 rfl) rfl (by show 2 * 0 + _ ≤ _; exact Nat.le_of_eq rfl) (hb hby d2_1) (fun _ _ => ⟨rfl, e0, (by decide : 0 + 0 ≤ _), (by decide : 0 + 0 ≤ _)⟩)
  dsimp only [Pt.U, Pt.locs, Pt.cells, Pt.slots] at X6 l6 y6 z6 st6 hQ6
  subst l6 y6 z6
  obtain ⟨rfl, N6q, e6⟩ := hQ6
  have N6 := Fr.app N0 N6q
  obtain ⟨T7, h7, X7, e7, W7, st7⟩ := putF X6 hx hZ hown (host := "") (Or.inl (hw _ (List.mem_of_getElem? (i := 20) rfl))) Via.refl e6 F_vehicle_a1 E_a1 (Or.inr ⟨(hw _ (List.mem_of_getElem? (i := 21) rfl)), rfl, hnm⟩) (hw _ (List.mem_of_getElem? (i := 7) rfl)) (ty := .int) (by decide) rfl rfl (g := (mkF m 6 #[.val (.ref a1), .val (.int p2), .val (.long q3), .second, .val (.int p4), .val (.int p5)] [(.int p2), (.ref a1)])) rfl rfl (hb hby d2_6)
  have N7 := Fr.snoc X7 N6 g_a1
  have c8 : n0 ≤ h7.size := Nat.le_trans Z0 (Keep.of_wr W7).1
  have c9 : Exa Z h7 a1 "com/example/podflow/podflow/simulation/Pickup" := E_a1.wr W7
  have c10 : Fld Z h7 a1 "com/example/podflow/podflow/simulation/Pickup" "vehicle" "I" (.int p2) := F_vehicle_a1.same W7
  have c11 : Fld Z h7 a1 "com/example/podflow/podflow/simulation/Pickup" "time" "J" (.long w_time_a1) := F_time_a1.other W7 (Or.inr (slot_ne (Or.inr (hw _ (List.mem_of_getElem? (i := 23) rfl))) (Or.inr (hw _ (List.mem_of_getElem? (i := 21) rfl))) (by decide) (t := .long) (t' := .int) (by decide) (by decide)))
  have c12 : Fld Z h7 a1 "com/example/podflow/podflow/simulation/Pickup" "emptyFrom" "I" (.int w_emptyFrom_a1) := F_emptyFrom_a1.other W7 (Or.inr (slot_ne (Or.inr (hw _ (List.mem_of_getElem? (i := 25) rfl))) (Or.inr (hw _ (List.mem_of_getElem? (i := 21) rfl))) (by decide) (t := .int) (t' := .int) (by decide) (by decide)))
  have c13 : Fld Z h7 a1 "com/example/podflow/podflow/simulation/Pickup" "emptyTo" "I" (.int w_emptyTo_a1) := F_emptyTo_a1.other W7 (Or.inr (slot_ne (Or.inr (hw _ (List.mem_of_getElem? (i := 27) rfl))) (Or.inr (hw _ (List.mem_of_getElem? (i := 21) rfl))) (by decide) (t := .int) (t' := .int) (by decide) (by decide)))
  have c14 : Keep h0 h7 [a1] := (Keep.refl h0 [a1]).wr W7 (Or.inl (List.mem_of_getElem? (i := 0) rfl))
  obtain ⟨T15, h15, X15, e15, W15, st15⟩ := putF X7 hx hZ hown (host := "") (Or.inl (hw _ (List.mem_of_getElem? (i := 22) rfl))) Via.refl e7 c11 c9 (Or.inr ⟨(hw _ (List.mem_of_getElem? (i := 23) rfl)), rfl, hnm⟩) (hw _ (List.mem_of_getElem? (i := 7) rfl)) (ty := .long) (by decide) rfl rfl (g := (mkF m 11 #[.val (.ref a1), .val (.int p2), .val (.long q3), .second, .val (.int p4), .val (.int p5)] [(.long q3), (.ref a1)])) rfl rfl (hb hby d2_11)
  have N15 := Fr.snoc X15 N7 g_a1
  have c16 : n0 ≤ h15.size := Nat.le_trans c8 (Keep.of_wr W15).1
  have c17 : Exa Z h15 a1 "com/example/podflow/podflow/simulation/Pickup" := c9.wr W15
  have c18 : Fld Z h15 a1 "com/example/podflow/podflow/simulation/Pickup" "vehicle" "I" (.int p2) := c10.other W15 (Or.inr (slot_ne (Or.inr (hw _ (List.mem_of_getElem? (i := 21) rfl))) (Or.inr (hw _ (List.mem_of_getElem? (i := 23) rfl))) (by decide) (t := .int) (t' := .long) (by decide) (by decide)))
  have c19 : Fld Z h15 a1 "com/example/podflow/podflow/simulation/Pickup" "time" "J" (.long q3) := c11.same W15
  have c20 : Fld Z h15 a1 "com/example/podflow/podflow/simulation/Pickup" "emptyFrom" "I" (.int w_emptyFrom_a1) := c12.other W15 (Or.inr (slot_ne (Or.inr (hw _ (List.mem_of_getElem? (i := 25) rfl))) (Or.inr (hw _ (List.mem_of_getElem? (i := 23) rfl))) (by decide) (t := .int) (t' := .long) (by decide) (by decide)))
  have c21 : Fld Z h15 a1 "com/example/podflow/podflow/simulation/Pickup" "emptyTo" "I" (.int w_emptyTo_a1) := c13.other W15 (Or.inr (slot_ne (Or.inr (hw _ (List.mem_of_getElem? (i := 27) rfl))) (Or.inr (hw _ (List.mem_of_getElem? (i := 23) rfl))) (by decide) (t := .int) (t' := .long) (by decide) (by decide)))
  have c22 : Keep h0 h15 [a1] := c14.wr W15 (Or.inl (List.mem_of_getElem? (i := 0) rfl))
  obtain ⟨T23, h23, X23, e23, W23, st23⟩ := putF X15 hx hZ hown (host := "") (Or.inl (hw _ (List.mem_of_getElem? (i := 24) rfl))) Via.refl e15 c20 c17 (Or.inr ⟨(hw _ (List.mem_of_getElem? (i := 25) rfl)), rfl, hnm⟩) (hw _ (List.mem_of_getElem? (i := 7) rfl)) (ty := .int) (by decide) rfl rfl (g := (mkF m 17 #[.val (.ref a1), .val (.int p2), .val (.long q3), .second, .val (.int p4), .val (.int p5)] [(.int p4), (.ref a1)])) rfl rfl (hb hby d2_17)
  have N23 := Fr.snoc X23 N15 g_a1
  have c24 : n0 ≤ h23.size := Nat.le_trans c16 (Keep.of_wr W23).1
  have c25 : Exa Z h23 a1 "com/example/podflow/podflow/simulation/Pickup" := c17.wr W23
  have c26 : Fld Z h23 a1 "com/example/podflow/podflow/simulation/Pickup" "vehicle" "I" (.int p2) := c18.other W23 (Or.inr (slot_ne (Or.inr (hw _ (List.mem_of_getElem? (i := 21) rfl))) (Or.inr (hw _ (List.mem_of_getElem? (i := 25) rfl))) (by decide) (t := .int) (t' := .int) (by decide) (by decide)))
  have c27 : Fld Z h23 a1 "com/example/podflow/podflow/simulation/Pickup" "time" "J" (.long q3) := c19.other W23 (Or.inr (slot_ne (Or.inr (hw _ (List.mem_of_getElem? (i := 23) rfl))) (Or.inr (hw _ (List.mem_of_getElem? (i := 25) rfl))) (by decide) (t := .long) (t' := .int) (by decide) (by decide)))
  have c28 : Fld Z h23 a1 "com/example/podflow/podflow/simulation/Pickup" "emptyFrom" "I" (.int p4) := c20.same W23
  have c29 : Fld Z h23 a1 "com/example/podflow/podflow/simulation/Pickup" "emptyTo" "I" (.int w_emptyTo_a1) := c21.other W23 (Or.inr (slot_ne (Or.inr (hw _ (List.mem_of_getElem? (i := 27) rfl))) (Or.inr (hw _ (List.mem_of_getElem? (i := 25) rfl))) (by decide) (t := .int) (t' := .int) (by decide) (by decide)))
  have c30 : Keep h0 h23 [a1] := c22.wr W23 (Or.inl (List.mem_of_getElem? (i := 0) rfl))
  obtain ⟨T31, h31, X31, e31, W31, st31⟩ := putF X23 hx hZ hown (host := "") (Or.inl (hw _ (List.mem_of_getElem? (i := 26) rfl))) Via.refl e23 c29 c25 (Or.inr ⟨(hw _ (List.mem_of_getElem? (i := 27) rfl)), rfl, hnm⟩) (hw _ (List.mem_of_getElem? (i := 7) rfl)) (ty := .int) (by decide) rfl rfl (g := (mkF m 23 #[.val (.ref a1), .val (.int p2), .val (.long q3), .second, .val (.int p4), .val (.int p5)] [(.int p5), (.ref a1)])) rfl rfl (hb hby d2_23)
  have N31 := Fr.snoc X31 N23 g_a1
  have c32 : n0 ≤ h31.size := Nat.le_trans c24 (Keep.of_wr W31).1
  have c33 : Exa Z h31 a1 "com/example/podflow/podflow/simulation/Pickup" := c25.wr W31
  have c34 : Fld Z h31 a1 "com/example/podflow/podflow/simulation/Pickup" "vehicle" "I" (.int p2) := c26.other W31 (Or.inr (slot_ne (Or.inr (hw _ (List.mem_of_getElem? (i := 21) rfl))) (Or.inr (hw _ (List.mem_of_getElem? (i := 27) rfl))) (by decide) (t := .int) (t' := .int) (by decide) (by decide)))
  have c35 : Fld Z h31 a1 "com/example/podflow/podflow/simulation/Pickup" "time" "J" (.long q3) := c27.other W31 (Or.inr (slot_ne (Or.inr (hw _ (List.mem_of_getElem? (i := 23) rfl))) (Or.inr (hw _ (List.mem_of_getElem? (i := 27) rfl))) (by decide) (t := .long) (t' := .int) (by decide) (by decide)))
  have c36 : Fld Z h31 a1 "com/example/podflow/podflow/simulation/Pickup" "emptyFrom" "I" (.int p4) := c28.other W31 (Or.inr (slot_ne (Or.inr (hw _ (List.mem_of_getElem? (i := 25) rfl))) (Or.inr (hw _ (List.mem_of_getElem? (i := 27) rfl))) (by decide) (t := .int) (t' := .int) (by decide) (by decide)))
  have c37 : Fld Z h31 a1 "com/example/podflow/podflow/simulation/Pickup" "emptyTo" "I" (.int p5) := c29.same W31
  have c38 : Keep h0 h31 [a1] := c30.wr W31 (Or.inl (List.mem_of_getElem? (i := 0) rfl))
  have eq1 : (f2_o0 p2 q3 p4 p5 w_vehicle_a1 w_time_a1 w_emptyFrom_a1 w_emptyTo_a1) = p2 := rfl
  have eq2 : (f2_o1 p2 q3 p4 p5 w_vehicle_a1 w_time_a1 w_emptyFrom_a1 w_emptyTo_a1) = q3 := rfl
  have eq3 : (f2_o2 p2 q3 p4 p5 w_vehicle_a1 w_time_a1 w_emptyFrom_a1 w_emptyTo_a1) = p4 := rfl
  have eq4 : (f2_o3 p2 q3 p4 p5 w_vehicle_a1 w_time_a1 w_emptyFrom_a1 w_emptyTo_a1) = p5 := rfl
  obtain ⟨fs, hr, hrun, hended, hW, hsame⟩ := X31.leave (v := none) (fun _ => rfl)
  refine ⟨_, _, pre0 _ ?_, hrun, hended, _, _, rfl, ?_, ⟨_, rfl⟩, hW, hsame.mono (by decide) (by decide)⟩
  · show Steps p.tables e below (s₁.setTop (mkF m 0 #[.val (.ref a1), .val (.int p2), .val (.long q3), .second, .val (.int p4), .val (.int p5)] [])) _
    refine XS.aloadN X0.here hx rfl (hb hby d2_0) rfl rfl ?_
    show Steps p.tables e below (s₁.setTop (mkF m 1 #[.val (.ref a1), .val (.int p2), .val (.long q3), .second, .val (.int p4), .val (.int p5)] [(.ref a1)])) _
    refine st6.trans ?_
    show Steps p.tables e below (T6.setTop (mkF m 4 #[.val (.ref a1), .val (.int p2), .val (.long q3), .second, .val (.int p4), .val (.int p5)] [])) _
    refine XS.aloadN X6.here hx rfl (hb hby d2_4) rfl rfl ?_
    refine XS.iloadN X6.here hx rfl (hb hby d2_5) rfl ?_
    show Steps p.tables e below (T6.setTop (mkF m 6 #[.val (.ref a1), .val (.int p2), .val (.long q3), .second, .val (.int p4), .val (.int p5)] [(.int p2), (.ref a1)])) _
    refine st7 _ ?_
    show Steps p.tables e below (T7.setTop (mkF m 9 #[.val (.ref a1), .val (.int p2), .val (.long q3), .second, .val (.int p4), .val (.int p5)] [])) _
    refine XS.aloadN X7.here hx rfl (hb hby d2_9) rfl rfl ?_
    refine XS.lloadN X7.here hx rfl (hb hby d2_10) rfl ?_
    show Steps p.tables e below (T7.setTop (mkF m 11 #[.val (.ref a1), .val (.int p2), .val (.long q3), .second, .val (.int p4), .val (.int p5)] [(.long q3), (.ref a1)])) _
    refine st15 _ ?_
    show Steps p.tables e below (T15.setTop (mkF m 14 #[.val (.ref a1), .val (.int p2), .val (.long q3), .second, .val (.int p4), .val (.int p5)] [])) _
    refine XS.aloadN X15.here hx rfl (hb hby d2_14) rfl rfl ?_
    refine XS.iload X15.here hx rfl (hb hby d2_15) rfl ?_
    show Steps p.tables e below (T15.setTop (mkF m 17 #[.val (.ref a1), .val (.int p2), .val (.long q3), .second, .val (.int p4), .val (.int p5)] [(.int p4), (.ref a1)])) _
    refine st23 _ ?_
    show Steps p.tables e below (T23.setTop (mkF m 20 #[.val (.ref a1), .val (.int p2), .val (.long q3), .second, .val (.int p4), .val (.int p5)] [])) _
    refine XS.aloadN X23.here hx rfl (hb hby d2_20) rfl rfl ?_
    refine XS.iload X23.here hx rfl (hb hby d2_21) rfl ?_
    show Steps p.tables e below (T23.setTop (mkF m 23 #[.val (.ref a1), .val (.int p2), .val (.long q3), .second, .val (.int p4), .val (.int p5)] [(.int p5), (.ref a1)])) _
    refine st31 _ ?_
    show Steps p.tables e below (T31.setTop (mkF m 26 #[.val (.ref a1), .val (.int p2), .val (.long q3), .second, .val (.int p4), .val (.int p5)] [])) _
    exact X31.returnOut hx Bd.returns (hb hby d2_26) hr
  · show Q2 Z a1 p2 q3 p4 p5 w_vehicle_a1 w_time_a1 w_emptyFrom_a1 w_emptyTo_a1 h0 n0 _ T31.heap _
    rw [e31]
    exact ⟨rfl, N31, c38, (by rw [eq1]; exact c34), (by rw [eq2]; exact c35), (by rw [eq3]; exact c36), (by rw [eq4]; exact c37)⟩
theorem d9_0 : decode prog_63_method_5_code 0 = .ok (.aload_n 0, 1) := by decide +kernel
theorem d9_1 : decode prog_63_method_5_code 1 = .ok (.getfield 7, 3) := by decide +kernel
theorem d9_4 : decode prog_63_method_5_code 4 = .ok (.ireturn, 1) := by decide +kernel
theorem ef_9 (m : MethodId) (x0 : Addr) : entryFrame m #[(.ref x0)] 1 = mkF m 0 #[.val (.ref x0)] [] := by first | (simp [entryFrame, mkF, argsToLocals, Value.category]; done) | rfl
def f9 (w_vehicle_a1 : Int32) : Int32 := w_vehicle_a1
def Q9 (Z : State) (a1 : Addr) (w_vehicle_a1 : Int32) (h0 : Heap) (n0 : Nat) (v : Option Value) (h : Heap) (L : List Loc) : Prop := v = some (.int (f9 w_vehicle_a1)) ∧ Fr n0 L ∧ h = h0
set_option maxRecDepth 65536 in
set_option maxHeartbeats 40000000 in
theorem rm9 (l : Launch) (Z : State) (a0 : Array Value) (hw : ∀ d ∈ tables_1, d.before a0 Z = true) (ws : List Jvm.Cond) (a1 : Addr) (w_vehicle_a1 : Int32) (h0 : Heap) (n0 : Nat) (Z0 : n0 ≤ h0.size) (F_vehicle_a1 : Fld Z h0 a1 "com/example/podflow/podflow/simulation/Pickup" "vehicle" "I" (.int w_vehicle_a1)) :
    MetFree l (⟨"com/example/podflow/podflow/simulation/Pickup", "vehicle", "()I"⟩ : MethodName) (head1 (Jvm.Cond.code (⟨"com/example/podflow/podflow/simulation/Pickup", "vehicle", "()I"⟩ : MethodName) prog_63_method_5_code 1 (some .int) :: ws) ({ frames := 0, cells := 0, slots := 0, locals := 0 } : Room)) (fun a U => a = #[(.ref a1)] ∧ Z.Warmed39 U.vm ∧ U.heap = h0) (fun _ _ _ _ _ => True) (fun _ U o U' => ∃ v L, o = .returned v ∧ Q9 Z a1 w_vehicle_a1 h0 n0 v U'.heap L ∧ FrameEnd U o U' L ({ frames := 0, cells := 0, slots := 0, locals := 0 } : Room).cells ({ frames := 0, cells := 0, slots := 0, locals := 0 } : Room).slots) := by
  refine MetFree.of_bodySF (plainFor_of_name pn_2) hisR ?_
  intro p e s m args below meth c s₁ Bd hml0 hP hK
  obtain ⟨rfl, hZ, hh⟩ := hP
  have hx := Bd.exec
  have hby := Bd.bytes
  have hml : c.maxLocals = 1 := hml0
  have hown : s.vm.findClass "com/example/podflow/podflow/simulation/Pickup" = some m.cls := findClass_of_methodNamed Bd.named
  have hnm := (name_of_methodNamed Bd.named Bd.method).1
  have X0 : Stand p l e ({ frames := 0, cells := 0, slots := 0, locals := 0 } : Room) s m #[(.ref a1)] below meth c s₁ [] 0 0 := Stand.of_body Bd
  have e0 : s₁.heap = h0 := by rw [← hh, Bd.state]; rfl
  have N0 := Fr.nil n0
  have pre0 : ∀ t, Steps p.tables e below (s₁.setTop (mkF m 0 #[.val (.ref a1)] [])) t → Steps p.tables e below (s₁.setTop (entryFrame m #[(.ref a1)] 1)) t := fun t k => castTop (ef_9 m a1) k
  obtain ⟨T2, X2, e2, st2⟩ := getF X0 hx hZ hown (host := "") (Or.inl (hw _ (List.mem_of_getElem? (i := 20) rfl))) Via.refl e0 F_vehicle_a1 (g := (mkF m 1 #[.val (.ref a1)] [(.ref a1)])) rfl rfl (hb hby d9_1)
  have eq1 : (f9 w_vehicle_a1) = w_vehicle_a1 := rfl
  obtain ⟨fs, hr, hrun, hended, hW, hsame⟩ := X2.leave (v := some (.int w_vehicle_a1)) (fun h => by rw [Bd.returns] at h; cases h)
  refine ⟨_, _, pre0 _ ?_, hrun, hended, _, _, rfl, ?_, ⟨_, rfl⟩, hW, hsame.mono (by decide) (by decide)⟩
  · show Steps p.tables e below (s₁.setTop (mkF m 0 #[.val (.ref a1)] [])) _
    refine XS.aloadN X0.here hx rfl (hb hby d9_0) rfl rfl ?_
    show Steps p.tables e below (s₁.setTop (mkF m 1 #[.val (.ref a1)] [(.ref a1)])) _
    refine st2 _ ?_
    show Steps p.tables e below (T2.setTop (mkF m 4 #[.val (.ref a1)] [(.int w_vehicle_a1)])) _
    exact retI X2 hx Bd.returns (hb hby d9_4) hr
  · show Q9 Z a1 w_vehicle_a1 h0 n0 _ T2.heap _
    rw [e2]
    exact ⟨by rw [eq1], N0, rfl⟩
theorem d10_0 : decode prog_63_method_7_code 0 = .ok (.aload_n 0, 1) := by decide +kernel
theorem d10_1 : decode prog_63_method_7_code 1 = .ok (.getfield 17, 3) := by decide +kernel
theorem d10_4 : decode prog_63_method_7_code 4 = .ok (.ireturn, 1) := by decide +kernel
theorem ef_10 (m : MethodId) (x0 : Addr) : entryFrame m #[(.ref x0)] 1 = mkF m 0 #[.val (.ref x0)] [] := by first | (simp [entryFrame, mkF, argsToLocals, Value.category]; done) | rfl
def f10 (w_emptyFrom_a1 : Int32) : Int32 := w_emptyFrom_a1
def Q10 (Z : State) (a1 : Addr) (w_emptyFrom_a1 : Int32) (h0 : Heap) (n0 : Nat) (v : Option Value) (h : Heap) (L : List Loc) : Prop := v = some (.int (f10 w_emptyFrom_a1)) ∧ Fr n0 L ∧ h = h0
set_option maxRecDepth 65536 in
set_option maxHeartbeats 40000000 in
theorem rm10 (l : Launch) (Z : State) (a0 : Array Value) (hw : ∀ d ∈ tables_1, d.before a0 Z = true) (ws : List Jvm.Cond) (a1 : Addr) (w_emptyFrom_a1 : Int32) (h0 : Heap) (n0 : Nat) (Z0 : n0 ≤ h0.size) (F_emptyFrom_a1 : Fld Z h0 a1 "com/example/podflow/podflow/simulation/Pickup" "emptyFrom" "I" (.int w_emptyFrom_a1)) :
    MetFree l (⟨"com/example/podflow/podflow/simulation/Pickup", "emptyFrom", "()I"⟩ : MethodName) (head1 (Jvm.Cond.code (⟨"com/example/podflow/podflow/simulation/Pickup", "emptyFrom", "()I"⟩ : MethodName) prog_63_method_7_code 1 (some .int) :: ws) ({ frames := 0, cells := 0, slots := 0, locals := 0 } : Room)) (fun a U => a = #[(.ref a1)] ∧ Z.Warmed39 U.vm ∧ U.heap = h0) (fun _ _ _ _ _ => True) (fun _ U o U' => ∃ v L, o = .returned v ∧ Q10 Z a1 w_emptyFrom_a1 h0 n0 v U'.heap L ∧ FrameEnd U o U' L ({ frames := 0, cells := 0, slots := 0, locals := 0 } : Room).cells ({ frames := 0, cells := 0, slots := 0, locals := 0 } : Room).slots) := by
  refine MetFree.of_bodySF (plainFor_of_name pn_2) hisR ?_
  intro p e s m args below meth c s₁ Bd hml0 hP hK
  obtain ⟨rfl, hZ, hh⟩ := hP
  have hx := Bd.exec
  have hby := Bd.bytes
  have hml : c.maxLocals = 1 := hml0
  have hown : s.vm.findClass "com/example/podflow/podflow/simulation/Pickup" = some m.cls := findClass_of_methodNamed Bd.named
  have hnm := (name_of_methodNamed Bd.named Bd.method).1
  have X0 : Stand p l e ({ frames := 0, cells := 0, slots := 0, locals := 0 } : Room) s m #[(.ref a1)] below meth c s₁ [] 0 0 := Stand.of_body Bd
  have e0 : s₁.heap = h0 := by rw [← hh, Bd.state]; rfl
  have N0 := Fr.nil n0
  have pre0 : ∀ t, Steps p.tables e below (s₁.setTop (mkF m 0 #[.val (.ref a1)] [])) t → Steps p.tables e below (s₁.setTop (entryFrame m #[(.ref a1)] 1)) t := fun t k => castTop (ef_10 m a1) k
  obtain ⟨T2, X2, e2, st2⟩ := getF X0 hx hZ hown (host := "") (Or.inl (hw _ (List.mem_of_getElem? (i := 24) rfl))) Via.refl e0 F_emptyFrom_a1 (g := (mkF m 1 #[.val (.ref a1)] [(.ref a1)])) rfl rfl (hb hby d10_1)
  have eq1 : (f10 w_emptyFrom_a1) = w_emptyFrom_a1 := rfl
  obtain ⟨fs, hr, hrun, hended, hW, hsame⟩ := X2.leave (v := some (.int w_emptyFrom_a1)) (fun h => by rw [Bd.returns] at h; cases h)
  refine ⟨_, _, pre0 _ ?_, hrun, hended, _, _, rfl, ?_, ⟨_, rfl⟩, hW, hsame.mono (by decide) (by decide)⟩
  · show Steps p.tables e below (s₁.setTop (mkF m 0 #[.val (.ref a1)] [])) _
    refine XS.aloadN X0.here hx rfl (hb hby d10_0) rfl rfl ?_
    show Steps p.tables e below (s₁.setTop (mkF m 1 #[.val (.ref a1)] [(.ref a1)])) _
    refine st2 _ ?_
    show Steps p.tables e below (T2.setTop (mkF m 4 #[.val (.ref a1)] [(.int w_emptyFrom_a1)])) _
    exact retI X2 hx Bd.returns (hb hby d10_4) hr
  · show Q10 Z a1 w_emptyFrom_a1 h0 n0 _ T2.heap _
    rw [e2]
    exact ⟨by rw [eq1], N0, rfl⟩
theorem d11_0 : decode prog_63_method_8_code 0 = .ok (.aload_n 0, 1) := by decide +kernel
theorem d11_1 : decode prog_63_method_8_code 1 = .ok (.getfield 20, 3) := by decide +kernel
theorem d11_4 : decode prog_63_method_8_code 4 = .ok (.ireturn, 1) := by decide +kernel
theorem ef_11 (m : MethodId) (x0 : Addr) : entryFrame m #[(.ref x0)] 1 = mkF m 0 #[.val (.ref x0)] [] := by first | (simp [entryFrame, mkF, argsToLocals, Value.category]; done) | rfl
def f11 (w_emptyTo_a1 : Int32) : Int32 := w_emptyTo_a1
def Q11 (Z : State) (a1 : Addr) (w_emptyTo_a1 : Int32) (h0 : Heap) (n0 : Nat) (v : Option Value) (h : Heap) (L : List Loc) : Prop := v = some (.int (f11 w_emptyTo_a1)) ∧ Fr n0 L ∧ h = h0
set_option maxRecDepth 65536 in
set_option maxHeartbeats 40000000 in
theorem rm11 (l : Launch) (Z : State) (a0 : Array Value) (hw : ∀ d ∈ tables_1, d.before a0 Z = true) (ws : List Jvm.Cond) (a1 : Addr) (w_emptyTo_a1 : Int32) (h0 : Heap) (n0 : Nat) (Z0 : n0 ≤ h0.size) (F_emptyTo_a1 : Fld Z h0 a1 "com/example/podflow/podflow/simulation/Pickup" "emptyTo" "I" (.int w_emptyTo_a1)) :
    MetFree l (⟨"com/example/podflow/podflow/simulation/Pickup", "emptyTo", "()I"⟩ : MethodName) (head1 (Jvm.Cond.code (⟨"com/example/podflow/podflow/simulation/Pickup", "emptyTo", "()I"⟩ : MethodName) prog_63_method_8_code 1 (some .int) :: ws) ({ frames := 0, cells := 0, slots := 0, locals := 0 } : Room)) (fun a U => a = #[(.ref a1)] ∧ Z.Warmed39 U.vm ∧ U.heap = h0) (fun _ _ _ _ _ => True) (fun _ U o U' => ∃ v L, o = .returned v ∧ Q11 Z a1 w_emptyTo_a1 h0 n0 v U'.heap L ∧ FrameEnd U o U' L ({ frames := 0, cells := 0, slots := 0, locals := 0 } : Room).cells ({ frames := 0, cells := 0, slots := 0, locals := 0 } : Room).slots) := by
  refine MetFree.of_bodySF (plainFor_of_name pn_2) hisR ?_
  intro p e s m args below meth c s₁ Bd hml0 hP hK
  obtain ⟨rfl, hZ, hh⟩ := hP
  have hx := Bd.exec
  have hby := Bd.bytes
  have hml : c.maxLocals = 1 := hml0
  have hown : s.vm.findClass "com/example/podflow/podflow/simulation/Pickup" = some m.cls := findClass_of_methodNamed Bd.named
  have hnm := (name_of_methodNamed Bd.named Bd.method).1
  have X0 : Stand p l e ({ frames := 0, cells := 0, slots := 0, locals := 0 } : Room) s m #[(.ref a1)] below meth c s₁ [] 0 0 := Stand.of_body Bd
  have e0 : s₁.heap = h0 := by rw [← hh, Bd.state]; rfl
  have N0 := Fr.nil n0
  have pre0 : ∀ t, Steps p.tables e below (s₁.setTop (mkF m 0 #[.val (.ref a1)] [])) t → Steps p.tables e below (s₁.setTop (entryFrame m #[(.ref a1)] 1)) t := fun t k => castTop (ef_11 m a1) k
  obtain ⟨T2, X2, e2, st2⟩ := getF X0 hx hZ hown (host := "") (Or.inl (hw _ (List.mem_of_getElem? (i := 26) rfl))) Via.refl e0 F_emptyTo_a1 (g := (mkF m 1 #[.val (.ref a1)] [(.ref a1)])) rfl rfl (hb hby d11_1)
  have eq1 : (f11 w_emptyTo_a1) = w_emptyTo_a1 := rfl
  obtain ⟨fs, hr, hrun, hended, hW, hsame⟩ := X2.leave (v := some (.int w_emptyTo_a1)) (fun h => by rw [Bd.returns] at h; cases h)
  refine ⟨_, _, pre0 _ ?_, hrun, hended, _, _, rfl, ?_, ⟨_, rfl⟩, hW, hsame.mono (by decide) (by decide)⟩
  · show Steps p.tables e below (s₁.setTop (mkF m 0 #[.val (.ref a1)] [])) _
    refine XS.aloadN X0.here hx rfl (hb hby d11_0) rfl rfl ?_
    show Steps p.tables e below (s₁.setTop (mkF m 1 #[.val (.ref a1)] [(.ref a1)])) _
    refine st2 _ ?_
    show Steps p.tables e below (T2.setTop (mkF m 4 #[.val (.ref a1)] [(.int w_emptyTo_a1)])) _
    exact retI X2 hx Bd.returns (hb hby d11_4) hr
  · show Q11 Z a1 w_emptyTo_a1 h0 n0 _ T2.heap _
    rw [e2]
    exact ⟨by rw [eq1], N0, rfl⟩
theorem pn_3 : plainName "java/util/Arrays" = true := by first | (simp [plainName, overriddenIn]; done) | decide +kernel
theorem d6_0 : decode jdk_65_method_103_code 0 = .ok (.iconst 0, 1) := by decide +kernel
theorem d6_1 : decode jdk_65_method_103_code 1 = .ok (.istore_n 2, 1) := by decide +kernel
theorem d6_2 : decode jdk_65_method_103_code 2 = .ok (.aload_n 0, 1) := by decide +kernel
theorem d6_3 : decode jdk_65_method_103_code 3 = .ok (.arraylength, 1) := by decide +kernel
theorem d6_4 : decode jdk_65_method_103_code 4 = .ok (.istore_n 3, 1) := by decide +kernel
theorem d6_5 : decode jdk_65_method_103_code 5 = .ok (.iload_n 2, 1) := by decide +kernel
theorem d6_6 : decode jdk_65_method_103_code 6 = .ok (.iload_n 3, 1) := by decide +kernel
theorem d6_7 : decode jdk_65_method_103_code 7 = .ok (.if_icmp .ge 13, 3) := by decide +kernel
theorem d6_10 : decode jdk_65_method_103_code 10 = .ok (.aload_n 0, 1) := by decide +kernel
theorem d6_11 : decode jdk_65_method_103_code 11 = .ok (.iload_n 2, 1) := by decide +kernel
theorem d6_12 : decode jdk_65_method_103_code 12 = .ok (.iload_n 1, 1) := by decide +kernel
theorem d6_13 : decode jdk_65_method_103_code 13 = .ok (.iastore, 1) := by decide +kernel
theorem d6_14 : decode jdk_65_method_103_code 14 = .ok (.iinc 2 1, 3) := by decide +kernel
theorem d6_17 : decode jdk_65_method_103_code 17 = .ok (.goto (-12), 3) := by decide +kernel
theorem d6_20 : decode jdk_65_method_103_code 20 = .ok (.return_, 1) := by decide +kernel
theorem ef_6 (m : MethodId) (x0 : Addr) (x1 : Int32) : entryFrame m #[(.ref x0), (.int x1)] 4 = mkF m 0 #[.val (.ref x0), .val (.int x1), .unset, .unset] [] := by first | (simp [entryFrame, mkF, argsToLocals, Value.category]; done) | rfl
def g6_5 (p2 : Int32) (z_a1 : Int32) (c_a1 : Nat → Int32) : Nat → Int32 → (Nat → Int32) → Nat → Int32
  | 0, _, _ => fun _ => 0
  | k + 1, i2, y1 => (if i2 < z_a1 then (g6_5 p2 z_a1 c_a1 k (i2 + (1 : Int32)) (ownU y1 (i2).toNatClampNeg p2)) else y1)
def f6_o0 (p2 : Int32) (z_a1 : Int32) (c_a1 : Nat → Int32) : Nat → Int32 := (g6_5 p2 z_a1 c_a1 (4) (0 : Int32) c_a1)
def Q6 (Z : State) (a1 : Addr) (p2 : Int32) (z_a1 : Int32) (c_a1 : Nat → Int32) (h0 : Heap) (n0 : Nat) (v : Option Value) (h : Heap) (L : List Loc) : Prop := v = none ∧ Fr n0 L ∧ Keep h0 h [a1] ∧ IAr Z h a1 .int z_a1 (f6_o0 p2 z_a1 c_a1)
set_option maxRecDepth 65536 in
set_option maxHeartbeats 40000000 in
theorem rm6 (l : Launch) (Z : State) (a0 : Array Value) (hw : ∀ d ∈ tables_1, d.before a0 Z = true) (ws : List Jvm.Cond) (a1 : Addr) (p2 : Int32) (z_a1 : Int32) (c_a1 : Nat → Int32) (h0 : Heap) (n0 : Nat) (Z0 : n0 ≤ h0.size) (V_a1 : IAr Z h0 a1 .int z_a1 c_a1) (g_a1 : n0 ≤ a1) (hz : z_a1 = 3) :
    MetFree l (⟨"java/util/Arrays", "fill", "([II)V"⟩ : MethodName) (head1 (Jvm.Cond.code (⟨"java/util/Arrays", "fill", "([II)V"⟩ : MethodName) jdk_65_method_103_code 4 none :: ws) ({ frames := 0, cells := 0, slots := 0, locals := 0 } : Room)) (fun a U => a = #[(.ref a1), (.int p2)] ∧ Z.Warmed39 U.vm ∧ U.heap = h0) (fun _ _ _ _ _ => True) (fun _ U o U' => ∃ v L, o = .returned v ∧ Q6 Z a1 p2 z_a1 c_a1 h0 n0 v U'.heap L ∧ FrameEnd U o U' L ({ frames := 0, cells := 0, slots := 0, locals := 0 } : Room).cells ({ frames := 0, cells := 0, slots := 0, locals := 0 } : Room).slots) := by
  refine MetFree.of_bodySF (plainFor_of_name pn_3) hisR ?_
  intro p e s m args below meth c s₁ Bd hml0 hP hK
  obtain ⟨rfl, hZ, hh⟩ := hP
  have hx := Bd.exec
  have hby := Bd.bytes
  have hml : c.maxLocals = 4 := hml0
  have hown : s.vm.findClass "java/util/Arrays" = some m.cls := findClass_of_methodNamed Bd.named
  have hnm := (name_of_methodNamed Bd.named Bd.method).1
  have X0 : Stand p l e ({ frames := 0, cells := 0, slots := 0, locals := 0 } : Room) s m #[(.ref a1), (.int p2)] below meth c s₁ [] 0 0 := Stand.of_body Bd
  have e0 : s₁.heap = h0 := by rw [← hh, Bd.state]; rfl
  have N0 := Fr.nil n0
  have pre0 : ∀ t, Steps p.tables e below (s₁.setTop (mkF m 0 #[.val (.ref a1), .val (.int p2), .unset, .unset] [])) t → Steps p.tables e below (s₁.setTop (entryFrame m #[(.ref a1), (.int p2)] 4)) t := fun t k => castTop (ef_6 m a1 p2) k
  have pre1 : ∀ t, Steps p.tables e below (s₁.setTop (mkF m 5 #[.val (.ref a1), .val (.int p2), .val (.int (0 : Int32)), .val (.int z_a1)] [])) t → Steps p.tables e below (s₁.setTop (entryFrame m #[(.ref a1), (.int p2)] 4)) t := by
    intro t k
    refine pre0 t ?_
    refine XS.iconst X0.here hx rfl (hb hby d6_0) ?_
    refine XS.istoreN X0.here hx rfl (hb hby d6_1) rfl (l' := #[.val (.ref a1), .val (.int p2), .val (.int (0 : Int32)), .unset]) rfl ?_
    refine XS.aloadN X0.here hx rfl (hb hby d6_2) rfl rfl ?_
    show Steps p.tables e below (s₁.setTop (mkF m 3 #[.val (.ref a1), .val (.int p2), .val (.int (0 : Int32)), .unset] [(.ref a1)])) _
    refine alen X0 hx hZ e0 V_a1 (g := (mkF m 3 #[.val (.ref a1), .val (.int p2), .val (.int (0 : Int32)), .unset] [(.ref a1)])) rfl rfl (hb hby d6_3) ?_
    show Steps p.tables e below (s₁.setTop (mkF m 4 #[.val (.ref a1), .val (.int p2), .val (.int (0 : Int32)), .unset] [(.int z_a1)])) _
    refine XS.istoreN X0.here hx rfl (hb hby d6_4) rfl (l' := #[.val (.ref a1), .val (.int p2), .val (.int (0 : Int32)), .val (.int z_a1)]) rfl ?_
    exact k
  have loop5 : ∀ (k : Nat) (i2 : Int32) (y1 : Nat → Int32) (T3 : State) (LT3 : List Loc) (h3 : Heap), 0 ≤ i2.toInt ∧ i2.toInt ≤ 3 ∧ 3 - i2.toInt < (k : Int) → Stand p l e ({ frames := 0, cells := 0, slots := 0, locals := 0 } : Room) s m #[(.ref a1), (.int p2)] below meth c T3 LT3 0 0 → T3.heap = h3 → Fr n0 LT3 → n0 ≤ h3.size → IAr Z h3 a1 .int z_a1 y1 → Keep h0 h3 [a1] → (g6_5 p2 z_a1 c_a1 k i2 y1) = (f6_o0 p2 z_a1 c_a1) → (∀ t, Steps p.tables e below (T3.setTop (mkF m 5 #[.val (.ref a1), .val (.int p2), .val (.int i2), .val (.int z_a1)] [])) t → Steps p.tables e below (s₁.setTop (entryFrame m #[(.ref a1), (.int p2)] 4)) t) → ∃ s₂ o, Steps p.tables e below (s₁.setTop (entryFrame m #[(.ref a1), (.int p2)] 4)) s₂ ∧ s₂.status = .running ∧ Ended s₂ below o ∧ ∃ v L, o = .returned v ∧ Q6 Z a1 p2 z_a1 c_a1 h0 n0 v s₂.heap L ∧ FrameEnd s o s₂ L ({ frames := 0, cells := 0, slots := 0, locals := 0 } : Room).cells ({ frames := 0, cells := 0, slots := 0, locals := 0 } : Room).slots := by
    intro k
    induction k with
    | zero => intro i2 y1 T3 LT3 h3 hI X3 e3 N3 c4 c5 c6 hg0 preL; exact absurd hI (by omega)
    | succ k ih =>
      intro i2 y1 T3 LT3 h3 hI X3 e3 N3 c4 c5 c6 hg0 preL
      have pre2 : ∀ t, Steps p.tables e below (T3.setTop (mkF m 7 #[.val (.ref a1), .val (.int p2), .val (.int i2), .val (.int z_a1)] [(.int z_a1), (.int i2)])) t → Steps p.tables e below (s₁.setTop (entryFrame m #[(.ref a1), (.int p2)] 4)) t := by
        intro t k
        refine preL t ?_
        show Steps p.tables e below (T3.setTop (mkF m 5 #[.val (.ref a1), .val (.int p2), .val (.int i2), .val (.int z_a1)] [])) _
        refine XS.iloadN X3.here hx rfl (hb hby d6_5) rfl ?_
        refine XS.iloadN X3.here hx rfl (hb hby d6_6) rfl ?_
        exact k
      by_cases hc7 : i2 < z_a1
      · obtain ⟨T7, h7, X7, e7, W7, V7, st7⟩ := sI X3 hx hZ e3 c5 (j := i2) (own_l2 hI hz hc7) (g := (mkF m 13 #[.val (.ref a1), .val (.int p2), .val (.int i2), .val (.int z_a1)] [(.int p2), (.int i2), (.ref a1)])) rfl rfl (hb hby d6_13)
        have N7 := Fr.snoc X7 N3 g_a1
        have c8 : n0 ≤ h7.size := Nat.le_trans c4 (Keep.of_wr W7).1
        have c9 : IAr Z h7 a1 .int z_a1 (ownU y1 (i2).toNatClampNeg p2) := V7
        have c10 : Keep h0 h7 [a1] := c6.wr W7 (Or.inl (List.mem_of_getElem? (i := 0) rfl))
        have eq3 : (f6_o0 p2 z_a1 c_a1) = (g6_5 p2 z_a1 c_a1 k (i2 + (1 : Int32)) (ownU y1 (i2).toNatClampNeg p2)) := by rw [← hg0]; simp only [g6_5, if_pos hc7]
        have pre4 : ∀ t, Steps p.tables e below (T7.setTop (mkF m 5 #[.val (.ref a1), .val (.int p2), .val (.int (i2 + (1 : Int32))), .val (.int z_a1)] [])) t → Steps p.tables e below (s₁.setTop (entryFrame m #[(.ref a1), (.int p2)] 4)) t := by
          intro t k
          refine pre2 t ?_
          refine XS.icmpNo X3.here hx rfl (hb hby d6_7) rfl (tlt hc7).2.1 ?_
          refine XS.aloadN X3.here hx rfl (hb hby d6_10) rfl rfl ?_
          show Steps p.tables e below (T3.setTop (mkF m 11 #[.val (.ref a1), .val (.int p2), .val (.int i2), .val (.int z_a1)] [(.ref a1)])) _
          refine XS.iloadN X3.here hx rfl (hb hby d6_11) rfl ?_
          refine XS.iloadN X3.here hx rfl (hb hby d6_12) rfl ?_
          show Steps p.tables e below (T3.setTop (mkF m 13 #[.val (.ref a1), .val (.int p2), .val (.int i2), .val (.int z_a1)] [(.int p2), (.int i2), (.ref a1)])) _
          refine st7 _ ?_
          show Steps p.tables e below (T7.setTop (mkF m 14 #[.val (.ref a1), .val (.int p2), .val (.int i2), .val (.int z_a1)] [])) _
          refine XS.iinc X7.here hx rfl (hb hby d6_14) rfl (l' := #[.val (.ref a1), .val (.int p2), .val (.int (i2 + (1 : Int32))), .val (.int z_a1)]) rfl ?_
          refine XS.goto X7.here hx rfl (pc0 := 17) (pc' := 5) rfl (hb hby d6_17) (by decide) (by decide) ?_
          exact k
        exact ih (i2 + (1 : Int32)) (ownU y1 (i2).toNatClampNeg p2) T7 _ h7 (own_l3 hI hz hc7) X7 e7 N7 c8 c9 c10  (eq3).symm pre4
      · have eq5 : (f6_o0 p2 z_a1 c_a1) = y1 := by rw [← hg0]; simp only [g6_5, if_neg hc7]
        obtain ⟨fs, hr, hrun, hended, hW, hsame⟩ := X3.leave (v := none) (fun _ => rfl)
        refine ⟨_, _, pre2 _ ?_, hrun, hended, _, _, rfl, ?_, ⟨_, rfl⟩, hW, hsame.mono (by decide) (by decide)⟩
        · show Steps p.tables e below (T3.setTop (mkF m 7 #[.val (.ref a1), .val (.int p2), .val (.int i2), .val (.int z_a1)] [(.int z_a1), (.int i2)])) _
          refine XS.icmpYes X3.here hx rfl (pc0 := 7) (pc' := 20) rfl (hb hby d6_7) rfl (flt hc7).2.1 (by decide) (by decide) ?_
          show Steps p.tables e below (T3.setTop (mkF m 20 #[.val (.ref a1), .val (.int p2), .val (.int i2), .val (.int z_a1)] [])) _
          exact X3.returnOut hx Bd.returns (hb hby d6_20) hr
        · show Q6 Z a1 p2 z_a1 c_a1 h0 n0 _ T3.heap _
          rw [e3]
          exact ⟨rfl, N3, c6, (by rw [eq5]; exact c5)⟩
  exact loop5 4 (0 : Int32) c_a1 s₁ _ h0  (own_l0) X0 e0 N0 Z0 V_a1 (Keep.refl h0 [a1]) (rfl) pre1
theorem pd_1 : parseMethodDescriptor "([II)V" = some ⟨[(.array .int), .int], none⟩ := by decide +kernel
theorem pn_4 : plainName "com/example/podflow/podflow/simulation/Ballot" = true := by first | (simp [plainName, overriddenIn]; done) | decide +kernel
theorem d5_0 : decode prog_56_method_1_code 0 = .ok (.aload_n 0, 1) := by decide +kernel
theorem d5_1 : decode prog_56_method_1_code 1 = .ok (.invokespecial 1, 3) := by decide +kernel
theorem d5_4 : decode prog_56_method_1_code 4 = .ok (.aload_n 2, 1) := by decide +kernel
theorem d5_5 : decode prog_56_method_1_code 5 = .ok (.arraylength, 1) := by decide +kernel
theorem d5_6 : decode prog_56_method_1_code 6 = .ok (.istore 4, 2) := by decide +kernel
theorem d5_8 : decode prog_56_method_1_code 8 = .ok (.aload_n 0, 1) := by decide +kernel
theorem d5_9 : decode prog_56_method_1_code 9 = .ok (.aload_n 1, 1) := by decide +kernel
theorem d5_10 : decode prog_56_method_1_code 10 = .ok (.putfield 7, 3) := by decide +kernel
theorem d5_13 : decode prog_56_method_1_code 13 = .ok (.aload_n 0, 1) := by decide +kernel
theorem d5_14 : decode prog_56_method_1_code 14 = .ok (.aload_n 2, 1) := by decide +kernel
theorem d5_15 : decode prog_56_method_1_code 15 = .ok (.putfield 13, 3) := by decide +kernel
theorem d5_18 : decode prog_56_method_1_code 18 = .ok (.aload_n 0, 1) := by decide +kernel
theorem d5_19 : decode prog_56_method_1_code 19 = .ok (.aload_n 3, 1) := by decide +kernel
theorem d5_20 : decode prog_56_method_1_code 20 = .ok (.invokevirtual 16, 3) := by decide +kernel
theorem d5_23 : decode prog_56_method_1_code 23 = .ok (.checkcast 17, 3) := by decide +kernel
theorem d5_26 : decode prog_56_method_1_code 26 = .ok (.putfield 22, 3) := by decide +kernel
theorem d5_29 : decode prog_56_method_1_code 29 = .ok (.aload_n 0, 1) := by decide +kernel
theorem d5_30 : decode prog_56_method_1_code 30 = .ok (.iload 4, 2) := by decide +kernel
theorem d5_32 : decode prog_56_method_1_code 32 = .ok (.newarray .int, 2) := by decide +kernel
theorem d5_34 : decode prog_56_method_1_code 34 = .ok (.putfield 25, 3) := by decide +kernel
theorem d5_37 : decode prog_56_method_1_code 37 = .ok (.aload_n 0, 1) := by decide +kernel
theorem d5_38 : decode prog_56_method_1_code 38 = .ok (.iload 4, 2) := by decide +kernel
theorem d5_40 : decode prog_56_method_1_code 40 = .ok (.newarray .int, 2) := by decide +kernel
theorem d5_42 : decode prog_56_method_1_code 42 = .ok (.putfield 28, 3) := by decide +kernel
theorem d5_45 : decode prog_56_method_1_code 45 = .ok (.aload_n 0, 1) := by decide +kernel
theorem d5_46 : decode prog_56_method_1_code 46 = .ok (.iload 4, 2) := by decide +kernel
theorem d5_48 : decode prog_56_method_1_code 48 = .ok (.newarray .int, 2) := by decide +kernel
theorem d5_50 : decode prog_56_method_1_code 50 = .ok (.putfield 31, 3) := by decide +kernel
theorem d5_53 : decode prog_56_method_1_code 53 = .ok (.aload_n 0, 1) := by decide +kernel
theorem d5_54 : decode prog_56_method_1_code 54 = .ok (.iload 4, 2) := by decide +kernel
theorem d5_56 : decode prog_56_method_1_code 56 = .ok (.newarray .int, 2) := by decide +kernel
theorem d5_58 : decode prog_56_method_1_code 58 = .ok (.putfield 34, 3) := by decide +kernel
theorem d5_61 : decode prog_56_method_1_code 61 = .ok (.aload_n 0, 1) := by decide +kernel
theorem d5_62 : decode prog_56_method_1_code 62 = .ok (.aload_n 1, 1) := by decide +kernel
theorem d5_63 : decode prog_56_method_1_code 63 = .ok (.arraylength, 1) := by decide +kernel
theorem d5_64 : decode prog_56_method_1_code 64 = .ok (.newarray .boolean, 2) := by decide +kernel
theorem d5_66 : decode prog_56_method_1_code 66 = .ok (.putfield 37, 3) := by decide +kernel
theorem d5_69 : decode prog_56_method_1_code 69 = .ok (.aload_n 0, 1) := by decide +kernel
theorem d5_70 : decode prog_56_method_1_code 70 = .ok (.getfield 31, 3) := by decide +kernel
theorem d5_73 : decode prog_56_method_1_code 73 = .ok (.iconst (-1), 1) := by decide +kernel
theorem d5_74 : decode prog_56_method_1_code 74 = .ok (.invokestatic 40, 3) := by decide +kernel
theorem d5_77 : decode prog_56_method_1_code 77 = .ok (.aload_n 0, 1) := by decide +kernel
theorem d5_78 : decode prog_56_method_1_code 78 = .ok (.getfield 34, 3) := by decide +kernel
theorem d5_81 : decode prog_56_method_1_code 81 = .ok (.iconst (-1), 1) := by decide +kernel
theorem d5_82 : decode prog_56_method_1_code 82 = .ok (.invokestatic 40, 3) := by decide +kernel
theorem d5_85 : decode prog_56_method_1_code 85 = .ok (.aload_n 3, 1) := by decide +kernel
theorem d5_86 : decode prog_56_method_1_code 86 = .ok (.astore 5, 2) := by decide +kernel
theorem d5_88 : decode prog_56_method_1_code 88 = .ok (.aload 5, 2) := by decide +kernel
theorem d5_90 : decode prog_56_method_1_code 90 = .ok (.arraylength, 1) := by decide +kernel
theorem d5_91 : decode prog_56_method_1_code 91 = .ok (.istore 6, 2) := by decide +kernel
theorem d5_93 : decode prog_56_method_1_code 93 = .ok (.iconst 0, 1) := by decide +kernel
theorem d5_94 : decode prog_56_method_1_code 94 = .ok (.istore 7, 2) := by decide +kernel
theorem d5_96 : decode prog_56_method_1_code 96 = .ok (.iload 7, 2) := by decide +kernel
theorem d5_98 : decode prog_56_method_1_code 98 = .ok (.iload 6, 2) := by decide +kernel
theorem d5_100 : decode prog_56_method_1_code 100 = .ok (.if_icmp .ge 35, 3) := by decide +kernel
theorem d5_103 : decode prog_56_method_1_code 103 = .ok (.aload 5, 2) := by decide +kernel
theorem d5_105 : decode prog_56_method_1_code 105 = .ok (.iload 7, 2) := by decide +kernel
theorem d5_107 : decode prog_56_method_1_code 107 = .ok (.baload, 1) := by decide +kernel
theorem d5_108 : decode prog_56_method_1_code 108 = .ok (.istore 8, 2) := by decide +kernel
theorem d5_110 : decode prog_56_method_1_code 110 = .ok (.aload_n 0, 1) := by decide +kernel
theorem d5_111 : decode prog_56_method_1_code 111 = .ok (.dup, 1) := by decide +kernel
theorem d5_112 : decode prog_56_method_1_code 112 = .ok (.getfield 46, 3) := by decide +kernel
theorem d5_115 : decode prog_56_method_1_code 115 = .ok (.iload 8, 2) := by decide +kernel
theorem d5_117 : decode prog_56_method_1_code 117 = .ok (.ifCond .eq 7, 3) := by decide +kernel
theorem d5_120 : decode prog_56_method_1_code 120 = .ok (.iconst 1, 1) := by decide +kernel
theorem d5_121 : decode prog_56_method_1_code 121 = .ok (.goto 4, 3) := by decide +kernel
theorem d5_124 : decode prog_56_method_1_code 124 = .ok (.iconst 0, 1) := by decide +kernel
theorem d5_125 : decode prog_56_method_1_code 125 = .ok (.iadd, 1) := by decide +kernel
theorem d5_126 : decode prog_56_method_1_code 126 = .ok (.putfield 46, 3) := by decide +kernel
theorem d5_129 : decode prog_56_method_1_code 129 = .ok (.iinc 7 1, 3) := by decide +kernel
theorem d5_132 : decode prog_56_method_1_code 132 = .ok (.goto (-36), 3) := by decide +kernel
theorem d5_135 : decode prog_56_method_1_code 135 = .ok (.return_, 1) := by decide +kernel
theorem ef_5 (m : MethodId) (x0 : Addr) (x1 : Addr) (x2 : Addr) (x3 : Addr) : entryFrame m #[(.ref x0), (.ref x1), (.ref x2), (.ref x3)] 9 = mkF m 0 #[.val (.ref x0), .val (.ref x1), .val (.ref x2), .val (.ref x3), .unset, .unset, .unset, .unset, .unset] [] := by first | (simp [entryFrame, mkF, argsToLocals, Value.category]; done) | rfl
def f5_x0n (w_unsettled_a1 : Int32) (z_a2 : Int32) (c_a2 : Nat → Int32) (z_a3 : Int32) (c_a3 : Nat → Int32) (z_a4 : Int32) (c_a4 : Nat → Int32) : Int32 := z_a4
def f5_x0c (w_unsettled_a1 : Int32) (z_a2 : Int32) (c_a2 : Nat → Int32) (z_a3 : Int32) (c_a3 : Nat → Int32) (z_a4 : Int32) (c_a4 : Nat → Int32) : Nat → Int32 := c_a4
def f5_x1n (w_unsettled_a1 : Int32) (z_a2 : Int32) (c_a2 : Nat → Int32) (z_a3 : Int32) (c_a3 : Nat → Int32) (z_a4 : Int32) (c_a4 : Nat → Int32) : Int32 := z_a3
def f5_x1c (w_unsettled_a1 : Int32) (z_a2 : Int32) (c_a2 : Nat → Int32) (z_a3 : Int32) (c_a3 : Nat → Int32) (z_a4 : Int32) (c_a4 : Nat → Int32) : Nat → Int32 := (fun _ => 0)
def f5_x2n (w_unsettled_a1 : Int32) (z_a2 : Int32) (c_a2 : Nat → Int32) (z_a3 : Int32) (c_a3 : Nat → Int32) (z_a4 : Int32) (c_a4 : Nat → Int32) : Int32 := z_a3
def f5_x2c (w_unsettled_a1 : Int32) (z_a2 : Int32) (c_a2 : Nat → Int32) (z_a3 : Int32) (c_a3 : Nat → Int32) (z_a4 : Int32) (c_a4 : Nat → Int32) : Nat → Int32 := (fun _ => 0)
def f5_x3n (w_unsettled_a1 : Int32) (z_a2 : Int32) (c_a2 : Nat → Int32) (z_a3 : Int32) (c_a3 : Nat → Int32) (z_a4 : Int32) (c_a4 : Nat → Int32) : Int32 := z_a3
def f5_x3c (w_unsettled_a1 : Int32) (z_a2 : Int32) (c_a2 : Nat → Int32) (z_a3 : Int32) (c_a3 : Nat → Int32) (z_a4 : Int32) (c_a4 : Nat → Int32) : Nat → Int32 := (f6_o0 (-1 : Int32) z_a3 (fun _ => 0))
def f5_x4n (w_unsettled_a1 : Int32) (z_a2 : Int32) (c_a2 : Nat → Int32) (z_a3 : Int32) (c_a3 : Nat → Int32) (z_a4 : Int32) (c_a4 : Nat → Int32) : Int32 := z_a3
def f5_x4c (w_unsettled_a1 : Int32) (z_a2 : Int32) (c_a2 : Nat → Int32) (z_a3 : Int32) (c_a3 : Nat → Int32) (z_a4 : Int32) (c_a4 : Nat → Int32) : Nat → Int32 := (f6_o0 (-1 : Int32) z_a3 (fun _ => 0))
def f5_x5n (w_unsettled_a1 : Int32) (z_a2 : Int32) (c_a2 : Nat → Int32) (z_a3 : Int32) (c_a3 : Nat → Int32) (z_a4 : Int32) (c_a4 : Nat → Int32) : Int32 := z_a2
def f5_x5c (w_unsettled_a1 : Int32) (z_a2 : Int32) (c_a2 : Nat → Int32) (z_a3 : Int32) (c_a3 : Nat → Int32) (z_a4 : Int32) (c_a4 : Nat → Int32) : Nat → Int32 := (fun _ => 0)
def g5_96 (w_unsettled_a1 : Int32) (z_a2 : Int32) (c_a2 : Nat → Int32) (z_a3 : Int32) (c_a3 : Nat → Int32) (z_a4 : Int32) (c_a4 : Nat → Int32) : Nat → Int32 → Int32 → Int32
  | 0, _, _ => 0
  | k + 1, i7, u7 => (if i7 < z_a4 then (if (c_a4 (i7).toNatClampNeg) = (0 : Int32) then (g5_96 w_unsettled_a1 z_a2 c_a2 z_a3 c_a3 z_a4 c_a4 k (i7 + (1 : Int32)) (u7 + (0 : Int32))) else (g5_96 w_unsettled_a1 z_a2 c_a2 z_a3 c_a3 z_a4 c_a4 k (i7 + (1 : Int32)) (u7 + (1 : Int32)))) else u7)
def f5_o2 (w_unsettled_a1 : Int32) (z_a2 : Int32) (c_a2 : Nat → Int32) (z_a3 : Int32) (c_a3 : Nat → Int32) (z_a4 : Int32) (c_a4 : Nat → Int32) : Int32 := (g5_96 w_unsettled_a1 z_a2 c_a2 z_a3 c_a3 z_a4 c_a4 (4) (0 : Int32) w_unsettled_a1)
def Q5 (Z : State) (a1 : Addr) (a2 : Addr) (a3 : Addr) (a4 : Addr) (w_unsettled_a1 : Int32) (z_a2 : Int32) (c_a2 : Nat → Int32) (z_a3 : Int32) (c_a3 : Nat → Int32) (z_a4 : Int32) (c_a4 : Nat → Int32) (h0 : Heap) (n0 : Nat) (v : Option Value) (h : Heap) (L : List Loc) : Prop := ∃ (r0 : Addr) (r1 : Addr) (r2 : Addr) (r3 : Addr) (r4 : Addr) (r5 : Addr), v = none ∧ Fr n0 L ∧ Keep h0 h [a1] ∧ Fld Z h a1 "com/example/podflow/podflow/simulation/Ballot" "idleAt" "[I" (.ref a2) ∧ Fld Z h a1 "com/example/podflow/podflow/simulation/Ballot" "idleCount" "[I" (.ref a3) ∧ Fld Z h a1 "com/example/podflow/podflow/simulation/Ballot" "unsettled" "I" (.int (f5_o2 w_unsettled_a1 z_a2 c_a2 z_a3 c_a3 z_a4 c_a4)) ∧ h0.size ≤ r0 ∧ IAr Z h r0 .boolean (f5_x0n w_unsettled_a1 z_a2 c_a2 z_a3 c_a3 z_a4 c_a4) (f5_x0c w_unsettled_a1 z_a2 c_a2 z_a3 c_a3 z_a4 c_a4) ∧ Fld Z h a1 "com/example/podflow/podflow/simulation/Ballot" "open" "[Z" (.ref r0) ∧ h0.size ≤ r1 ∧ IAr Z h r1 .int (f5_x1n w_unsettled_a1 z_a2 c_a2 z_a3 c_a3 z_a4 c_a4) (f5_x1c w_unsettled_a1 z_a2 c_a2 z_a3 c_a3 z_a4 c_a4) ∧ Fld Z h a1 "com/example/podflow/podflow/simulation/Ballot" "served" "[I" (.ref r1) ∧ h0.size ≤ r2 ∧ IAr Z h r2 .int (f5_x2n w_unsettled_a1 z_a2 c_a2 z_a3 c_a3 z_a4 c_a4) (f5_x2c w_unsettled_a1 z_a2 c_a2 z_a3 c_a3 z_a4 c_a4) ∧ Fld Z h a1 "com/example/podflow/podflow/simulation/Ballot" "servedHome" "[I" (.ref r2) ∧ h0.size ≤ r3 ∧ IAr Z h r3 .int (f5_x3n w_unsettled_a1 z_a2 c_a2 z_a3 c_a3 z_a4 c_a4) (f5_x3c w_unsettled_a1 z_a2 c_a2 z_a3 c_a3 z_a4 c_a4) ∧ Fld Z h a1 "com/example/podflow/podflow/simulation/Ballot" "ownLeaving" "[I" (.ref r3) ∧ h0.size ≤ r4 ∧ IAr Z h r4 .int (f5_x4n w_unsettled_a1 z_a2 c_a2 z_a3 c_a3 z_a4 c_a4) (f5_x4c w_unsettled_a1 z_a2 c_a2 z_a3 c_a3 z_a4 c_a4) ∧ Fld Z h a1 "com/example/podflow/podflow/simulation/Ballot" "anyLeaving" "[I" (.ref r4) ∧ h0.size ≤ r5 ∧ IAr Z h r5 .boolean (f5_x5n w_unsettled_a1 z_a2 c_a2 z_a3 c_a3 z_a4 c_a4) (f5_x5c w_unsettled_a1 z_a2 c_a2 z_a3 c_a3 z_a4 c_a4) ∧ Fld Z h a1 "com/example/podflow/podflow/simulation/Ballot" "counted" "[Z" (.ref r5) ∧ r0 ≠ r1 ∧ r0 ≠ r2 ∧ r0 ≠ r3 ∧ r0 ≠ r4 ∧ r0 ≠ r5 ∧ r1 ≠ r2 ∧ r1 ≠ r3 ∧ r1 ≠ r4 ∧ r1 ≠ r5 ∧ r2 ≠ r3 ∧ r2 ≠ r4 ∧ r2 ≠ r5 ∧ r3 ≠ r4 ∧ r3 ≠ r5 ∧ r4 ≠ r5
set_option maxRecDepth 65536 in
set_option maxHeartbeats 40000000 in
theorem rm5 (l : Launch) (Z : State) (a0 : Array Value) (hw : ∀ d ∈ tables_1, d.before a0 Z = true) (ws : List Jvm.Cond) (a1 : Addr) (a2 : Addr) (a3 : Addr) (a4 : Addr) (w_unsettled_a1 : Int32) (z_a2 : Int32) (c_a2 : Nat → Int32) (z_a3 : Int32) (c_a3 : Nat → Int32) (z_a4 : Int32) (c_a4 : Nat → Int32) (h0 : Heap) (n0 : Nat) (Z0 : n0 ≤ h0.size) (E_a1 : Exa Z h0 a1 "com/example/podflow/podflow/simulation/Ballot") (g_a1 : n0 ≤ a1) (F_idleAt_a1 : Fld Z h0 a1 "com/example/podflow/podflow/simulation/Ballot" "idleAt" "[I" .null) (F_idleCount_a1 : Fld Z h0 a1 "com/example/podflow/podflow/simulation/Ballot" "idleCount" "[I" .null) (F_open_a1 : Fld Z h0 a1 "com/example/podflow/podflow/simulation/Ballot" "open" "[Z" .null) (F_served_a1 : Fld Z h0 a1 "com/example/podflow/podflow/simulation/Ballot" "served" "[I" .null) (F_servedHome_a1 : Fld Z h0 a1 "com/example/podflow/podflow/simulation/Ballot" "servedHome" "[I" .null) (F_ownLeaving_a1 : Fld Z h0 a1 "com/example/podflow/podflow/simulation/Ballot" "ownLeaving" "[I" .null) (F_anyLeaving_a1 : Fld Z h0 a1 "com/example/podflow/podflow/simulation/Ballot" "anyLeaving" "[I" .null) (F_counted_a1 : Fld Z h0 a1 "com/example/podflow/podflow/simulation/Ballot" "counted" "[Z" .null) (F_unsettled_a1 : Fld Z h0 a1 "com/example/podflow/podflow/simulation/Ballot" "unsettled" "I" (.int w_unsettled_a1)) (V_a2 : IAr Z h0 a2 .int z_a2 c_a2) (V_a3 : IAr Z h0 a3 .int z_a3 c_a3) (V_a4 : IAr Z h0 a4 .boolean z_a4 c_a4) (E_a4 : Exa Z h0 a4 "[Z") (ne_a1_a2 : a1 ≠ a2) (ne_a1_a3 : a1 ≠ a3) (ne_a1_a4 : a1 ≠ a4) (hz2 : z_a2 = 3) (hz3 : z_a3 = 3) (hz4 : z_a4 = 3) (hfit : ∀ i, fits .boolean (.int (c_a4 i)) = true) :
    MetFree l (⟨"com/example/podflow/podflow/simulation/Ballot", "<init>", "([I[I[Z)V"⟩ : MethodName) (head1 (Jvm.Cond.code (⟨"com/example/podflow/podflow/simulation/Ballot", "<init>", "([I[I[Z)V"⟩ : MethodName) prog_56_method_1_code 9 none :: ws) ({ frames := 1, cells := 6, slots := 18, locals := 15 } : Room)) (fun a U => a = #[(.ref a1), (.ref a2), (.ref a3), (.ref a4)] ∧ Z.Warmed39 U.vm ∧ U.heap = h0) (fun _ _ _ _ _ => True) (fun _ U o U' => ∃ v L, o = .returned v ∧ Q5 Z a1 a2 a3 a4 w_unsettled_a1 z_a2 c_a2 z_a3 c_a3 z_a4 c_a4 h0 n0 v U'.heap L ∧ FrameEnd U o U' L ({ frames := 1, cells := 6, slots := 18, locals := 15 } : Room).cells ({ frames := 1, cells := 6, slots := 18, locals := 15 } : Room).slots) := by
  refine MetFree.of_bodySF (plainFor_of_name pn_4) hisR ?_
  intro p e s m args below meth c s₁ Bd hml0 hP hK
  obtain ⟨rfl, hZ, hh⟩ := hP
  have hx := Bd.exec
  have hby := Bd.bytes
  have hml : c.maxLocals = 9 := hml0
  have hown : s.vm.findClass "com/example/podflow/podflow/simulation/Ballot" = some m.cls := findClass_of_methodNamed Bd.named
  have hnm := (name_of_methodNamed Bd.named Bd.method).1
  have X0 : Stand p l e ({ frames := 1, cells := 6, slots := 18, locals := 15 } : Room) s m #[(.ref a1), (.ref a2), (.ref a3), (.ref a4)] below meth c s₁ [] 0 0 := Stand.of_body Bd
  have e0 : s₁.heap = h0 := by rw [← hh, Bd.state]; rfl
  have N0 := Fr.nil n0
  have pre0 : ∀ t, Steps p.tables e below (s₁.setTop (mkF m 0 #[.val (.ref a1), .val (.ref a2), .val (.ref a3), .val (.ref a4), .unset, .unset, .unset, .unset, .unset] [])) t → Steps p.tables e below (s₁.setTop (entryFrame m #[(.ref a1), (.ref a2), (.ref a3), (.ref a4)] 9)) t := fun t k => castTop (ef_5 m a1 a2 a3 a4) k
  obtain ⟨T5, X5, e5, st5⟩ := initO X0 hx hZ hown (hw _ (List.mem_of_getElem? (i := 34) rfl)) (hw _ (List.mem_of_getElem? (i := 18) rfl)) (hw _ (List.mem_of_getElem? (i := 19) rfl)) e0 (g := (mkF m 1 #[.val (.ref a1), .val (.ref a2), .val (.ref a3), .val (.ref a4), .unset, .unset, .unset, .unset, .unset] [(.ref a1)])) rfl (by rw [hml]; rfl) rfl (hb hby d5_1) (by decide) (W := 0) (by show 2 * 0 + _ ≤ _; exact Nat.le_of_eq rfl) (by decide)
  obtain ⟨T6, h6, X6, e6, W6, st6⟩ := putF X5 hx hZ hown (host := "") (Or.inl (hw _ (List.mem_of_getElem? (i := 35) rfl))) Via.refl e5 F_idleAt_a1 E_a1 (Or.inr ⟨(hw _ (List.mem_of_getElem? (i := 36) rfl)), rfl, hnm⟩) (hw _ (List.mem_of_getElem? (i := 29) rfl)) (ty := (.array .int)) (by decide) rfl rfl (g := (mkF m 10 #[.val (.ref a1), .val (.ref a2), .val (.ref a3), .val (.ref a4), .val (.int z_a3), .unset, .unset, .unset, .unset] [(.ref a2), (.ref a1)])) rfl rfl (hb hby d5_10)
  have N6 := Fr.snoc X6 N0 g_a1
  have c7 : n0 ≤ h6.size := Nat.le_trans Z0 (Keep.of_wr W6).1
  have c8 : Exa Z h6 a1 "com/example/podflow/podflow/simulation/Ballot" := E_a1.wr W6
  have c9 : Fld Z h6 a1 "com/example/podflow/podflow/simulation/Ballot" "idleAt" "[I" (.ref a2) := F_idleAt_a1.same W6
  have c10 : Fld Z h6 a1 "com/example/podflow/podflow/simulation/Ballot" "idleCount" "[I" .null := F_idleCount_a1.other W6 (Or.inr (slot_ne (Or.inr (hw _ (List.mem_of_getElem? (i := 38) rfl))) (Or.inr (hw _ (List.mem_of_getElem? (i := 36) rfl))) (by decide) (t := (.array .int)) (t' := (.array .int)) (by decide) (by decide)))
  have c11 : Fld Z h6 a1 "com/example/podflow/podflow/simulation/Ballot" "open" "[Z" .null := F_open_a1.other W6 (Or.inr (slot_ne (Or.inr (hw _ (List.mem_of_getElem? (i := 49) rfl))) (Or.inr (hw _ (List.mem_of_getElem? (i := 36) rfl))) (by decide) (t := (.array .boolean)) (t' := (.array .int)) (by decide) (by decide)))
  have c12 : Fld Z h6 a1 "com/example/podflow/podflow/simulation/Ballot" "served" "[I" .null := F_served_a1.other W6 (Or.inr (slot_ne (Or.inr (hw _ (List.mem_of_getElem? (i := 51) rfl))) (Or.inr (hw _ (List.mem_of_getElem? (i := 36) rfl))) (by decide) (t := (.array .int)) (t' := (.array .int)) (by decide) (by decide)))
  have c13 : Fld Z h6 a1 "com/example/podflow/podflow/simulation/Ballot" "servedHome" "[I" .null := F_servedHome_a1.other W6 (Or.inr (slot_ne (Or.inr (hw _ (List.mem_of_getElem? (i := 53) rfl))) (Or.inr (hw _ (List.mem_of_getElem? (i := 36) rfl))) (by decide) (t := (.array .int)) (t' := (.array .int)) (by decide) (by decide)))
  have c14 : Fld Z h6 a1 "com/example/podflow/podflow/simulation/Ballot" "ownLeaving" "[I" .null := F_ownLeaving_a1.other W6 (Or.inr (slot_ne (Or.inr (hw _ (List.mem_of_getElem? (i := 55) rfl))) (Or.inr (hw _ (List.mem_of_getElem? (i := 36) rfl))) (by decide) (t := (.array .int)) (t' := (.array .int)) (by decide) (by decide)))
  have c15 : Fld Z h6 a1 "com/example/podflow/podflow/simulation/Ballot" "anyLeaving" "[I" .null := F_anyLeaving_a1.other W6 (Or.inr (slot_ne (Or.inr (hw _ (List.mem_of_getElem? (i := 57) rfl))) (Or.inr (hw _ (List.mem_of_getElem? (i := 36) rfl))) (by decide) (t := (.array .int)) (t' := (.array .int)) (by decide) (by decide)))
  have c16 : Fld Z h6 a1 "com/example/podflow/podflow/simulation/Ballot" "counted" "[Z" .null := F_counted_a1.other W6 (Or.inr (slot_ne (Or.inr (hw _ (List.mem_of_getElem? (i := 59) rfl))) (Or.inr (hw _ (List.mem_of_getElem? (i := 36) rfl))) (by decide) (t := (.array .boolean)) (t' := (.array .int)) (by decide) (by decide)))
  have c17 : Fld Z h6 a1 "com/example/podflow/podflow/simulation/Ballot" "unsettled" "I" (.int w_unsettled_a1) := F_unsettled_a1.other W6 (Or.inr (slot_ne (Or.inl (hw _ (List.mem_of_getElem? (i := 65) rfl))) (Or.inr (hw _ (List.mem_of_getElem? (i := 36) rfl))) (by decide) (t := .int) (t' := (.array .int)) (by decide) (by decide)))
  have c18 : IAr Z h6 a2 .int z_a2 c_a2 := V_a2.other W6 (Ne.symm ne_a1_a2)
  have c19 : IAr Z h6 a3 .int z_a3 c_a3 := V_a3.other W6 (Ne.symm ne_a1_a3)
  have c20 : IAr Z h6 a4 .boolean z_a4 c_a4 := V_a4.other W6 (Ne.symm ne_a1_a4)
  have c21 : Exa Z h6 a4 "[Z" := E_a4.wr W6
  have c22 : Keep h0 h6 [a1] := (Keep.refl h0 [a1]).wr W6 (Or.inl (List.mem_of_getElem? (i := 0) rfl))
  obtain ⟨T23, h23, X23, e23, W23, st23⟩ := putF X6 hx hZ hown (host := "") (Or.inl (hw _ (List.mem_of_getElem? (i := 37) rfl))) Via.refl e6 c10 c8 (Or.inr ⟨(hw _ (List.mem_of_getElem? (i := 38) rfl)), rfl, hnm⟩) (hw _ (List.mem_of_getElem? (i := 29) rfl)) (ty := (.array .int)) (by decide) rfl rfl (g := (mkF m 15 #[.val (.ref a1), .val (.ref a2), .val (.ref a3), .val (.ref a4), .val (.int z_a3), .unset, .unset, .unset, .unset] [(.ref a3), (.ref a1)])) rfl rfl (hb hby d5_15)
  have N23 := Fr.snoc X23 N6 g_a1
  have c24 : n0 ≤ h23.size := Nat.le_trans c7 (Keep.of_wr W23).1
  have c25 : Exa Z h23 a1 "com/example/podflow/podflow/simulation/Ballot" := c8.wr W23
  have c26 : Fld Z h23 a1 "com/example/podflow/podflow/simulation/Ballot" "idleAt" "[I" (.ref a2) := c9.other W23 (Or.inr (slot_ne (Or.inr (hw _ (List.mem_of_getElem? (i := 36) rfl))) (Or.inr (hw _ (List.mem_of_getElem? (i := 38) rfl))) (by decide) (t := (.array .int)) (t' := (.array .int)) (by decide) (by decide)))
  have c27 : Fld Z h23 a1 "com/example/podflow/podflow/simulation/Ballot" "idleCount" "[I" (.ref a3) := c10.same W23
  have c28 : Fld Z h23 a1 "com/example/podflow/podflow/simulation/Ballot" "open" "[Z" .null := c11.other W23 (Or.inr (slot_ne (Or.inr (hw _ (List.mem_of_getElem? (i := 49) rfl))) (Or.inr (hw _ (List.mem_of_getElem? (i := 38) rfl))) (by decide) (t := (.array .boolean)) (t' := (.array .int)) (by decide) (by decide)))
  have c29 : Fld Z h23 a1 "com/example/podflow/podflow/simulation/Ballot" "served" "[I" .null := c12.other W23 (Or.inr (slot_ne (Or.inr (hw _ (List.mem_of_getElem? (i := 51) rfl))) (Or.inr (hw _ (List.mem_of_getElem? (i := 38) rfl))) (by decide) (t := (.array .int)) (t' := (.array .int)) (by decide) (by decide)))
  have c30 : Fld Z h23 a1 "com/example/podflow/podflow/simulation/Ballot" "servedHome" "[I" .null := c13.other W23 (Or.inr (slot_ne (Or.inr (hw _ (List.mem_of_getElem? (i := 53) rfl))) (Or.inr (hw _ (List.mem_of_getElem? (i := 38) rfl))) (by decide) (t := (.array .int)) (t' := (.array .int)) (by decide) (by decide)))
  have c31 : Fld Z h23 a1 "com/example/podflow/podflow/simulation/Ballot" "ownLeaving" "[I" .null := c14.other W23 (Or.inr (slot_ne (Or.inr (hw _ (List.mem_of_getElem? (i := 55) rfl))) (Or.inr (hw _ (List.mem_of_getElem? (i := 38) rfl))) (by decide) (t := (.array .int)) (t' := (.array .int)) (by decide) (by decide)))
  have c32 : Fld Z h23 a1 "com/example/podflow/podflow/simulation/Ballot" "anyLeaving" "[I" .null := c15.other W23 (Or.inr (slot_ne (Or.inr (hw _ (List.mem_of_getElem? (i := 57) rfl))) (Or.inr (hw _ (List.mem_of_getElem? (i := 38) rfl))) (by decide) (t := (.array .int)) (t' := (.array .int)) (by decide) (by decide)))
  have c33 : Fld Z h23 a1 "com/example/podflow/podflow/simulation/Ballot" "counted" "[Z" .null := c16.other W23 (Or.inr (slot_ne (Or.inr (hw _ (List.mem_of_getElem? (i := 59) rfl))) (Or.inr (hw _ (List.mem_of_getElem? (i := 38) rfl))) (by decide) (t := (.array .boolean)) (t' := (.array .int)) (by decide) (by decide)))
  have c34 : Fld Z h23 a1 "com/example/podflow/podflow/simulation/Ballot" "unsettled" "I" (.int w_unsettled_a1) := c17.other W23 (Or.inr (slot_ne (Or.inl (hw _ (List.mem_of_getElem? (i := 65) rfl))) (Or.inr (hw _ (List.mem_of_getElem? (i := 38) rfl))) (by decide) (t := .int) (t' := (.array .int)) (by decide) (by decide)))
  have c35 : IAr Z h23 a2 .int z_a2 c_a2 := c18.other W23 (Ne.symm ne_a1_a2)
  have c36 : IAr Z h23 a3 .int z_a3 c_a3 := c19.other W23 (Ne.symm ne_a1_a3)
  have c37 : IAr Z h23 a4 .boolean z_a4 c_a4 := c20.other W23 (Ne.symm ne_a1_a4)
  have c38 : Exa Z h23 a4 "[Z" := c21.wr W23
  have c39 : Keep h0 h23 [a1] := c22.wr W23 (Or.inl (List.mem_of_getElem? (i := 0) rfl))
  obtain ⟨T40, h40, X40, e40, E40, A40, EX40, st40⟩ := own_clone X23 hx hZ hown (hw _ (List.mem_of_getElem? (i := 39) rfl)) (hw _ (List.mem_of_getElem? (i := 40) rfl)) (hw _ (List.mem_of_getElem? (i := 44) rfl)) (hw _ (List.mem_of_getElem? (i := 42) rfl)) (hw _ (List.mem_of_getElem? (i := 43) rfl)) (hw _ (List.mem_of_getElem? (i := 45) rfl)) e23 c37 c38 hfit (g := (mkF m 20 #[.val (.ref a1), .val (.ref a2), .val (.ref a3), .val (.ref a4), .val (.int z_a3), .unset, .unset, .unset, .unset] [(.ref a4), (.ref a1)])) rfl (by rw [hml]; rfl) rfl (hb hby d5_20) (by decide) (W := 1) (cap := 3) (by show 2 * 0 + _ ≤ _; exact Nat.le_of_eq rfl) (by decide) (by rw [hz4]; decide) (by decide) (by decide)
  obtain ⟨b40, g40⟩ : ∃ z, z = h23.size := ⟨_, rfl⟩
  rw [← g40] at A40 EX40 st40
  have ne_a1_b40 : a1 ≠ b40 := Nat.ne_of_lt (Nat.lt_of_lt_of_le c25.lt (Nat.le_of_eq g40.symm))
  have ne_a2_b40 : a2 ≠ b40 := Nat.ne_of_lt (Nat.lt_of_lt_of_le c35.lt (Nat.le_of_eq g40.symm))
  have ne_a3_b40 : a3 ≠ b40 := Nat.ne_of_lt (Nat.lt_of_lt_of_le c36.lt (Nat.le_of_eq g40.symm))
  have ne_a4_b40 : a4 ≠ b40 := Nat.ne_of_lt (Nat.lt_of_lt_of_le c37.lt (Nat.le_of_eq g40.symm))
  have g_b40 : n0 ≤ b40 := Nat.le_trans c24 (Nat.le_of_eq g40.symm)
  have sz_b40 : h0.size ≤ b40 := Nat.le_trans c39.1 (Nat.le_of_eq g40.symm)
  have c41 : n0 ≤ h40.size := Nat.le_trans c24 E40.1
  have c42 : Exa Z h40 a1 "com/example/podflow/podflow/simulation/Ballot" := c25.ext E40
  have c43 : Fld Z h40 a1 "com/example/podflow/podflow/simulation/Ballot" "idleAt" "[I" (.ref a2) := c26.ext E40
  have c44 : Fld Z h40 a1 "com/example/podflow/podflow/simulation/Ballot" "idleCount" "[I" (.ref a3) := c27.ext E40
  have c45 : Fld Z h40 a1 "com/example/podflow/podflow/simulation/Ballot" "open" "[Z" .null := c28.ext E40
  have c46 : Fld Z h40 a1 "com/example/podflow/podflow/simulation/Ballot" "served" "[I" .null := c29.ext E40
  have c47 : Fld Z h40 a1 "com/example/podflow/podflow/simulation/Ballot" "servedHome" "[I" .null := c30.ext E40
  have c48 : Fld Z h40 a1 "com/example/podflow/podflow/simulation/Ballot" "ownLeaving" "[I" .null := c31.ext E40
  have c49 : Fld Z h40 a1 "com/example/podflow/podflow/simulation/Ballot" "anyLeaving" "[I" .null := c32.ext E40
  have c50 : Fld Z h40 a1 "com/example/podflow/podflow/simulation/Ballot" "counted" "[Z" .null := c33.ext E40
  have c51 : Fld Z h40 a1 "com/example/podflow/podflow/simulation/Ballot" "unsettled" "I" (.int w_unsettled_a1) := c34.ext E40
  have c52 : IAr Z h40 a2 .int z_a2 c_a2 := c35.ext E40
  have c53 : IAr Z h40 a3 .int z_a3 c_a3 := c36.ext E40
  have c54 : IAr Z h40 a4 .boolean z_a4 c_a4 := c37.ext E40
  have c55 : Exa Z h40 a4 "[Z" := c38.ext E40
  have c56 : Keep h0 h40 [a1] := c39.ext E40
  obtain ⟨T57, X57, e57, st57⟩ := castY X40 hx hZ hown (hw _ (List.mem_of_getElem? (i := 46) rfl)) e40 (Ins.self EX40) (g := (mkF m 23 #[.val (.ref a1), .val (.ref a2), .val (.ref a3), .val (.ref a4), .val (.int z_a3), .unset, .unset, .unset, .unset] [(.ref b40), (.ref a1)])) rfl rfl (hb hby d5_23)
  obtain ⟨T58, h58, X58, e58, W58, st58⟩ := putF X57 hx hZ hown (host := "") (Or.inl (hw _ (List.mem_of_getElem? (i := 48) rfl))) Via.refl e57 c45 c42 (Or.inr ⟨(hw _ (List.mem_of_getElem? (i := 49) rfl)), rfl, hnm⟩) (hw _ (List.mem_of_getElem? (i := 29) rfl)) (ty := (.array .boolean)) (by decide) rfl rfl (g := (mkF m 26 #[.val (.ref a1), .val (.ref a2), .val (.ref a3), .val (.ref a4), .val (.int z_a3), .unset, .unset, .unset, .unset] [(.ref b40), (.ref a1)])) rfl rfl (hb hby d5_26)
  have N58 := Fr.snoc X58 N23 g_a1
  have c59 : n0 ≤ h58.size := Nat.le_trans c41 (Keep.of_wr W58).1
  have c60 : Exa Z h58 a1 "com/example/podflow/podflow/simulation/Ballot" := c42.wr W58
  have c61 : Fld Z h58 a1 "com/example/podflow/podflow/simulation/Ballot" "idleAt" "[I" (.ref a2) := c43.other W58 (Or.inr (slot_ne (Or.inr (hw _ (List.mem_of_getElem? (i := 36) rfl))) (Or.inr (hw _ (List.mem_of_getElem? (i := 49) rfl))) (by decide) (t := (.array .int)) (t' := (.array .boolean)) (by decide) (by decide)))
  have c62 : Fld Z h58 a1 "com/example/podflow/podflow/simulation/Ballot" "idleCount" "[I" (.ref a3) := c44.other W58 (Or.inr (slot_ne (Or.inr (hw _ (List.mem_of_getElem? (i := 38) rfl))) (Or.inr (hw _ (List.mem_of_getElem? (i := 49) rfl))) (by decide) (t := (.array .int)) (t' := (.array .boolean)) (by decide) (by decide)))
  have c63 : Fld Z h58 a1 "com/example/podflow/podflow/simulation/Ballot" "open" "[Z" (.ref b40) := c45.same W58
  have c64 : Fld Z h58 a1 "com/example/podflow/podflow/simulation/Ballot" "served" "[I" .null := c46.other W58 (Or.inr (slot_ne (Or.inr (hw _ (List.mem_of_getElem? (i := 51) rfl))) (Or.inr (hw _ (List.mem_of_getElem? (i := 49) rfl))) (by decide) (t := (.array .int)) (t' := (.array .boolean)) (by decide) (by decide)))
  have c65 : Fld Z h58 a1 "com/example/podflow/podflow/simulation/Ballot" "servedHome" "[I" .null := c47.other W58 (Or.inr (slot_ne (Or.inr (hw _ (List.mem_of_getElem? (i := 53) rfl))) (Or.inr (hw _ (List.mem_of_getElem? (i := 49) rfl))) (by decide) (t := (.array .int)) (t' := (.array .boolean)) (by decide) (by decide)))
  have c66 : Fld Z h58 a1 "com/example/podflow/podflow/simulation/Ballot" "ownLeaving" "[I" .null := c48.other W58 (Or.inr (slot_ne (Or.inr (hw _ (List.mem_of_getElem? (i := 55) rfl))) (Or.inr (hw _ (List.mem_of_getElem? (i := 49) rfl))) (by decide) (t := (.array .int)) (t' := (.array .boolean)) (by decide) (by decide)))
  have c67 : Fld Z h58 a1 "com/example/podflow/podflow/simulation/Ballot" "anyLeaving" "[I" .null := c49.other W58 (Or.inr (slot_ne (Or.inr (hw _ (List.mem_of_getElem? (i := 57) rfl))) (Or.inr (hw _ (List.mem_of_getElem? (i := 49) rfl))) (by decide) (t := (.array .int)) (t' := (.array .boolean)) (by decide) (by decide)))
  have c68 : Fld Z h58 a1 "com/example/podflow/podflow/simulation/Ballot" "counted" "[Z" .null := c50.other W58 (Or.inr (slot_ne (Or.inr (hw _ (List.mem_of_getElem? (i := 59) rfl))) (Or.inr (hw _ (List.mem_of_getElem? (i := 49) rfl))) (by decide) (t := (.array .boolean)) (t' := (.array .boolean)) (by decide) (by decide)))
  have c69 : Fld Z h58 a1 "com/example/podflow/podflow/simulation/Ballot" "unsettled" "I" (.int w_unsettled_a1) := c51.other W58 (Or.inr (slot_ne (Or.inl (hw _ (List.mem_of_getElem? (i := 65) rfl))) (Or.inr (hw _ (List.mem_of_getElem? (i := 49) rfl))) (by decide) (t := .int) (t' := (.array .boolean)) (by decide) (by decide)))
  have c70 : IAr Z h58 a2 .int z_a2 c_a2 := c52.other W58 (Ne.symm ne_a1_a2)
  have c71 : IAr Z h58 a3 .int z_a3 c_a3 := c53.other W58 (Ne.symm ne_a1_a3)
  have c72 : IAr Z h58 a4 .boolean z_a4 c_a4 := c54.other W58 (Ne.symm ne_a1_a4)
  have c73 : Exa Z h58 a4 "[Z" := c55.wr W58
  have c74 : Keep h0 h58 [a1] := c56.wr W58 (Or.inl (List.mem_of_getElem? (i := 0) rfl))
  have c75 : IAr Z h58 b40 .boolean z_a4 c_a4 := A40.other W58 (Ne.symm ne_a1_b40)
  have c76 : Exa Z h58 b40 "[Z" := EX40.wr W58
  obtain ⟨T77, h77, k77, X77, e77, E77, A77, st77⟩ := newP X58 hx hZ (hw _ (List.mem_of_getElem? (i := 0) rfl)) e58 (g := (mkF m 32 #[.val (.ref a1), .val (.ref a2), .val (.ref a3), .val (.ref a4), .val (.int z_a3), .unset, .unset, .unset, .unset] [(.int z_a3), (.ref a1)])) rfl (hb hby d5_32) rfl (by rw [hz3]; decide) (cap := 3) (by rw [hz3]; decide) (by decide) (by decide) (by decide)
  obtain ⟨b77, g77⟩ : ∃ z, z = h58.size := ⟨_, rfl⟩
  rw [← g77] at A77 st77
  have ne_a1_b77 : a1 ≠ b77 := Nat.ne_of_lt (Nat.lt_of_lt_of_le c60.lt (Nat.le_of_eq g77.symm))
  have ne_a2_b77 : a2 ≠ b77 := Nat.ne_of_lt (Nat.lt_of_lt_of_le c70.lt (Nat.le_of_eq g77.symm))
  have ne_a3_b77 : a3 ≠ b77 := Nat.ne_of_lt (Nat.lt_of_lt_of_le c71.lt (Nat.le_of_eq g77.symm))
  have ne_a4_b77 : a4 ≠ b77 := Nat.ne_of_lt (Nat.lt_of_lt_of_le c72.lt (Nat.le_of_eq g77.symm))
  have ne_b40_b77 : b40 ≠ b77 := Nat.ne_of_lt (Nat.lt_of_lt_of_le c75.lt (Nat.le_of_eq g77.symm))
  have g_b77 : n0 ≤ b77 := Nat.le_trans c59 (Nat.le_of_eq g77.symm)
  have sz_b77 : h0.size ≤ b77 := Nat.le_trans c74.1 (Nat.le_of_eq g77.symm)
  have c78 : n0 ≤ h77.size := Nat.le_trans c59 E77.1
  have c79 : Exa Z h77 a1 "com/example/podflow/podflow/simulation/Ballot" := c60.ext E77
  have c80 : Fld Z h77 a1 "com/example/podflow/podflow/simulation/Ballot" "idleAt" "[I" (.ref a2) := c61.ext E77
  have c81 : Fld Z h77 a1 "com/example/podflow/podflow/simulation/Ballot" "idleCount" "[I" (.ref a3) := c62.ext E77
  have c82 : Fld Z h77 a1 "com/example/podflow/podflow/simulation/Ballot" "open" "[Z" (.ref b40) := c63.ext E77
  have c83 : Fld Z h77 a1 "com/example/podflow/podflow/simulation/Ballot" "served" "[I" .null := c64.ext E77
  have c84 : Fld Z h77 a1 "com/example/podflow/podflow/simulation/Ballot" "servedHome" "[I" .null := c65.ext E77
  have c85 : Fld Z h77 a1 "com/example/podflow/podflow/simulation/Ballot" "ownLeaving" "[I" .null := c66.ext E77
  have c86 : Fld Z h77 a1 "com/example/podflow/podflow/simulation/Ballot" "anyLeaving" "[I" .null := c67.ext E77
  have c87 : Fld Z h77 a1 "com/example/podflow/podflow/simulation/Ballot" "counted" "[Z" .null := c68.ext E77
  have c88 : Fld Z h77 a1 "com/example/podflow/podflow/simulation/Ballot" "unsettled" "I" (.int w_unsettled_a1) := c69.ext E77
  have c89 : IAr Z h77 a2 .int z_a2 c_a2 := c70.ext E77
  have c90 : IAr Z h77 a3 .int z_a3 c_a3 := c71.ext E77
  have c91 : IAr Z h77 a4 .boolean z_a4 c_a4 := c72.ext E77
  have c92 : Exa Z h77 a4 "[Z" := c73.ext E77
  have c93 : Keep h0 h77 [a1] := c74.ext E77
  have c94 : IAr Z h77 b40 .boolean z_a4 c_a4 := c75.ext E77
  have c95 : Exa Z h77 b40 "[Z" := c76.ext E77
  have c96 : IAr Z h77 b77 .int z_a3 (fun _ => 0) := IAr.new A77 (by rw [hz3]; decide) rfl
  obtain ⟨T97, h97, X97, e97, W97, st97⟩ := putF X77 hx hZ hown (host := "") (Or.inl (hw _ (List.mem_of_getElem? (i := 50) rfl))) Via.refl e77 c83 c79 (Or.inr ⟨(hw _ (List.mem_of_getElem? (i := 51) rfl)), rfl, hnm⟩) (hw _ (List.mem_of_getElem? (i := 29) rfl)) (ty := (.array .int)) (by decide) rfl rfl (g := (mkF m 34 #[.val (.ref a1), .val (.ref a2), .val (.ref a3), .val (.ref a4), .val (.int z_a3), .unset, .unset, .unset, .unset] [(.ref b77), (.ref a1)])) rfl rfl (hb hby d5_34)
  have N97 := Fr.snoc X97 N58 g_a1
  have c98 : n0 ≤ h97.size := Nat.le_trans c78 (Keep.of_wr W97).1
  have c99 : Exa Z h97 a1 "com/example/podflow/podflow/simulation/Ballot" := c79.wr W97
  have c100 : Fld Z h97 a1 "com/example/podflow/podflow/simulation/Ballot" "idleAt" "[I" (.ref a2) := c80.other W97 (Or.inr (slot_ne (Or.inr (hw _ (List.mem_of_getElem? (i := 36) rfl))) (Or.inr (hw _ (List.mem_of_getElem? (i := 51) rfl))) (by decide) (t := (.array .int)) (t' := (.array .int)) (by decide) (by decide)))
  have c101 : Fld Z h97 a1 "com/example/podflow/podflow/simulation/Ballot" "idleCount" "[I" (.ref a3) := c81.other W97 (Or.inr (slot_ne (Or.inr (hw _ (List.mem_of_getElem? (i := 38) rfl))) (Or.inr (hw _ (List.mem_of_getElem? (i := 51) rfl))) (by decide) (t := (.array .int)) (t' := (.array .int)) (by decide) (by decide)))
  have c102 : Fld Z h97 a1 "com/example/podflow/podflow/simulation/Ballot" "open" "[Z" (.ref b40) := c82.other W97 (Or.inr (slot_ne (Or.inr (hw _ (List.mem_of_getElem? (i := 49) rfl))) (Or.inr (hw _ (List.mem_of_getElem? (i := 51) rfl))) (by decide) (t := (.array .boolean)) (t' := (.array .int)) (by decide) (by decide)))
  have c103 : Fld Z h97 a1 "com/example/podflow/podflow/simulation/Ballot" "served" "[I" (.ref b77) := c83.same W97
  have c104 : Fld Z h97 a1 "com/example/podflow/podflow/simulation/Ballot" "servedHome" "[I" .null := c84.other W97 (Or.inr (slot_ne (Or.inr (hw _ (List.mem_of_getElem? (i := 53) rfl))) (Or.inr (hw _ (List.mem_of_getElem? (i := 51) rfl))) (by decide) (t := (.array .int)) (t' := (.array .int)) (by decide) (by decide)))
  have c105 : Fld Z h97 a1 "com/example/podflow/podflow/simulation/Ballot" "ownLeaving" "[I" .null := c85.other W97 (Or.inr (slot_ne (Or.inr (hw _ (List.mem_of_getElem? (i := 55) rfl))) (Or.inr (hw _ (List.mem_of_getElem? (i := 51) rfl))) (by decide) (t := (.array .int)) (t' := (.array .int)) (by decide) (by decide)))
  have c106 : Fld Z h97 a1 "com/example/podflow/podflow/simulation/Ballot" "anyLeaving" "[I" .null := c86.other W97 (Or.inr (slot_ne (Or.inr (hw _ (List.mem_of_getElem? (i := 57) rfl))) (Or.inr (hw _ (List.mem_of_getElem? (i := 51) rfl))) (by decide) (t := (.array .int)) (t' := (.array .int)) (by decide) (by decide)))
  have c107 : Fld Z h97 a1 "com/example/podflow/podflow/simulation/Ballot" "counted" "[Z" .null := c87.other W97 (Or.inr (slot_ne (Or.inr (hw _ (List.mem_of_getElem? (i := 59) rfl))) (Or.inr (hw _ (List.mem_of_getElem? (i := 51) rfl))) (by decide) (t := (.array .boolean)) (t' := (.array .int)) (by decide) (by decide)))
  have c108 : Fld Z h97 a1 "com/example/podflow/podflow/simulation/Ballot" "unsettled" "I" (.int w_unsettled_a1) := c88.other W97 (Or.inr (slot_ne (Or.inl (hw _ (List.mem_of_getElem? (i := 65) rfl))) (Or.inr (hw _ (List.mem_of_getElem? (i := 51) rfl))) (by decide) (t := .int) (t' := (.array .int)) (by decide) (by decide)))
  have c109 : IAr Z h97 a2 .int z_a2 c_a2 := c89.other W97 (Ne.symm ne_a1_a2)
  have c110 : IAr Z h97 a3 .int z_a3 c_a3 := c90.other W97 (Ne.symm ne_a1_a3)
  have c111 : IAr Z h97 a4 .boolean z_a4 c_a4 := c91.other W97 (Ne.symm ne_a1_a4)
  have c112 : Exa Z h97 a4 "[Z" := c92.wr W97
  have c113 : Keep h0 h97 [a1] := c93.wr W97 (Or.inl (List.mem_of_getElem? (i := 0) rfl))
  have c114 : IAr Z h97 b40 .boolean z_a4 c_a4 := c94.other W97 (Ne.symm ne_a1_b40)
  have c115 : Exa Z h97 b40 "[Z" := c95.wr W97
  have c116 : IAr Z h97 b77 .int z_a3 (fun _ => 0) := c96.other W97 (Ne.symm ne_a1_b77)
  obtain ⟨T117, h117, k117, X117, e117, E117, A117, st117⟩ := newP X97 hx hZ (hw _ (List.mem_of_getElem? (i := 0) rfl)) e97 (g := (mkF m 40 #[.val (.ref a1), .val (.ref a2), .val (.ref a3), .val (.ref a4), .val (.int z_a3), .unset, .unset, .unset, .unset] [(.int z_a3), (.ref a1)])) rfl (hb hby d5_40) rfl (by rw [hz3]; decide) (cap := 3) (by rw [hz3]; decide) (by decide) (by decide) (by decide)
  obtain ⟨b117, g117⟩ : ∃ z, z = h97.size := ⟨_, rfl⟩
  rw [← g117] at A117 st117
  have ne_a1_b117 : a1 ≠ b117 := Nat.ne_of_lt (Nat.lt_of_lt_of_le c99.lt (Nat.le_of_eq g117.symm))
  have ne_a2_b117 : a2 ≠ b117 := Nat.ne_of_lt (Nat.lt_of_lt_of_le c109.lt (Nat.le_of_eq g117.symm))
  have ne_a3_b117 : a3 ≠ b117 := Nat.ne_of_lt (Nat.lt_of_lt_of_le c110.lt (Nat.le_of_eq g117.symm))
  have ne_a4_b117 : a4 ≠ b117 := Nat.ne_of_lt (Nat.lt_of_lt_of_le c111.lt (Nat.le_of_eq g117.symm))
  have ne_b40_b117 : b40 ≠ b117 := Nat.ne_of_lt (Nat.lt_of_lt_of_le c114.lt (Nat.le_of_eq g117.symm))
  have ne_b77_b117 : b77 ≠ b117 := Nat.ne_of_lt (Nat.lt_of_lt_of_le c116.lt (Nat.le_of_eq g117.symm))
  have g_b117 : n0 ≤ b117 := Nat.le_trans c98 (Nat.le_of_eq g117.symm)
  have sz_b117 : h0.size ≤ b117 := Nat.le_trans c113.1 (Nat.le_of_eq g117.symm)
  have c118 : n0 ≤ h117.size := Nat.le_trans c98 E117.1
  have c119 : Exa Z h117 a1 "com/example/podflow/podflow/simulation/Ballot" := c99.ext E117
  have c120 : Fld Z h117 a1 "com/example/podflow/podflow/simulation/Ballot" "idleAt" "[I" (.ref a2) := c100.ext E117
  have c121 : Fld Z h117 a1 "com/example/podflow/podflow/simulation/Ballot" "idleCount" "[I" (.ref a3) := c101.ext E117
  have c122 : Fld Z h117 a1 "com/example/podflow/podflow/simulation/Ballot" "open" "[Z" (.ref b40) := c102.ext E117
  have c123 : Fld Z h117 a1 "com/example/podflow/podflow/simulation/Ballot" "served" "[I" (.ref b77) := c103.ext E117
  have c124 : Fld Z h117 a1 "com/example/podflow/podflow/simulation/Ballot" "servedHome" "[I" .null := c104.ext E117
  have c125 : Fld Z h117 a1 "com/example/podflow/podflow/simulation/Ballot" "ownLeaving" "[I" .null := c105.ext E117
  have c126 : Fld Z h117 a1 "com/example/podflow/podflow/simulation/Ballot" "anyLeaving" "[I" .null := c106.ext E117
  have c127 : Fld Z h117 a1 "com/example/podflow/podflow/simulation/Ballot" "counted" "[Z" .null := c107.ext E117
  have c128 : Fld Z h117 a1 "com/example/podflow/podflow/simulation/Ballot" "unsettled" "I" (.int w_unsettled_a1) := c108.ext E117
  have c129 : IAr Z h117 a2 .int z_a2 c_a2 := c109.ext E117
  have c130 : IAr Z h117 a3 .int z_a3 c_a3 := c110.ext E117
  have c131 : IAr Z h117 a4 .boolean z_a4 c_a4 := c111.ext E117
  have c132 : Exa Z h117 a4 "[Z" := c112.ext E117
  have c133 : Keep h0 h117 [a1] := c113.ext E117
  have c134 : IAr Z h117 b40 .boolean z_a4 c_a4 := c114.ext E117
  have c135 : Exa Z h117 b40 "[Z" := c115.ext E117
  have c136 : IAr Z h117 b77 .int z_a3 (fun _ => 0) := c116.ext E117
  have c137 : IAr Z h117 b117 .int z_a3 (fun _ => 0) := IAr.new A117 (by rw [hz3]; decide) rfl
  obtain ⟨T138, h138, X138, e138, W138, st138⟩ := putF X117 hx hZ hown (host := "") (Or.inl (hw _ (List.mem_of_getElem? (i := 52) rfl))) Via.refl e117 c124 c119 (Or.inr ⟨(hw _ (List.mem_of_getElem? (i := 53) rfl)), rfl, hnm⟩) (hw _ (List.mem_of_getElem? (i := 29) rfl)) (ty := (.array .int)) (by decide) rfl rfl (g := (mkF m 42 #[.val (.ref a1), .val (.ref a2), .val (.ref a3), .val (.ref a4), .val (.int z_a3), .unset, .unset, .unset, .unset] [(.ref b117), (.ref a1)])) rfl rfl (hb hby d5_42)
  have N138 := Fr.snoc X138 N97 g_a1
  have c139 : n0 ≤ h138.size := Nat.le_trans c118 (Keep.of_wr W138).1
  have c140 : Exa Z h138 a1 "com/example/podflow/podflow/simulation/Ballot" := c119.wr W138
  have c141 : Fld Z h138 a1 "com/example/podflow/podflow/simulation/Ballot" "idleAt" "[I" (.ref a2) := c120.other W138 (Or.inr (slot_ne (Or.inr (hw _ (List.mem_of_getElem? (i := 36) rfl))) (Or.inr (hw _ (List.mem_of_getElem? (i := 53) rfl))) (by decide) (t := (.array .int)) (t' := (.array .int)) (by decide) (by decide)))
  have c142 : Fld Z h138 a1 "com/example/podflow/podflow/simulation/Ballot" "idleCount" "[I" (.ref a3) := c121.other W138 (Or.inr (slot_ne (Or.inr (hw _ (List.mem_of_getElem? (i := 38) rfl))) (Or.inr (hw _ (List.mem_of_getElem? (i := 53) rfl))) (by decide) (t := (.array .int)) (t' := (.array .int)) (by decide) (by decide)))
  have c143 : Fld Z h138 a1 "com/example/podflow/podflow/simulation/Ballot" "open" "[Z" (.ref b40) := c122.other W138 (Or.inr (slot_ne (Or.inr (hw _ (List.mem_of_getElem? (i := 49) rfl))) (Or.inr (hw _ (List.mem_of_getElem? (i := 53) rfl))) (by decide) (t := (.array .boolean)) (t' := (.array .int)) (by decide) (by decide)))
  have c144 : Fld Z h138 a1 "com/example/podflow/podflow/simulation/Ballot" "served" "[I" (.ref b77) := c123.other W138 (Or.inr (slot_ne (Or.inr (hw _ (List.mem_of_getElem? (i := 51) rfl))) (Or.inr (hw _ (List.mem_of_getElem? (i := 53) rfl))) (by decide) (t := (.array .int)) (t' := (.array .int)) (by decide) (by decide)))
  have c145 : Fld Z h138 a1 "com/example/podflow/podflow/simulation/Ballot" "servedHome" "[I" (.ref b117) := c124.same W138
  have c146 : Fld Z h138 a1 "com/example/podflow/podflow/simulation/Ballot" "ownLeaving" "[I" .null := c125.other W138 (Or.inr (slot_ne (Or.inr (hw _ (List.mem_of_getElem? (i := 55) rfl))) (Or.inr (hw _ (List.mem_of_getElem? (i := 53) rfl))) (by decide) (t := (.array .int)) (t' := (.array .int)) (by decide) (by decide)))
  have c147 : Fld Z h138 a1 "com/example/podflow/podflow/simulation/Ballot" "anyLeaving" "[I" .null := c126.other W138 (Or.inr (slot_ne (Or.inr (hw _ (List.mem_of_getElem? (i := 57) rfl))) (Or.inr (hw _ (List.mem_of_getElem? (i := 53) rfl))) (by decide) (t := (.array .int)) (t' := (.array .int)) (by decide) (by decide)))
  have c148 : Fld Z h138 a1 "com/example/podflow/podflow/simulation/Ballot" "counted" "[Z" .null := c127.other W138 (Or.inr (slot_ne (Or.inr (hw _ (List.mem_of_getElem? (i := 59) rfl))) (Or.inr (hw _ (List.mem_of_getElem? (i := 53) rfl))) (by decide) (t := (.array .boolean)) (t' := (.array .int)) (by decide) (by decide)))
  have c149 : Fld Z h138 a1 "com/example/podflow/podflow/simulation/Ballot" "unsettled" "I" (.int w_unsettled_a1) := c128.other W138 (Or.inr (slot_ne (Or.inl (hw _ (List.mem_of_getElem? (i := 65) rfl))) (Or.inr (hw _ (List.mem_of_getElem? (i := 53) rfl))) (by decide) (t := .int) (t' := (.array .int)) (by decide) (by decide)))
  have c150 : IAr Z h138 a2 .int z_a2 c_a2 := c129.other W138 (Ne.symm ne_a1_a2)
  have c151 : IAr Z h138 a3 .int z_a3 c_a3 := c130.other W138 (Ne.symm ne_a1_a3)
  have c152 : IAr Z h138 a4 .boolean z_a4 c_a4 := c131.other W138 (Ne.symm ne_a1_a4)
  have c153 : Exa Z h138 a4 "[Z" := c132.wr W138
  have c154 : Keep h0 h138 [a1] := c133.wr W138 (Or.inl (List.mem_of_getElem? (i := 0) rfl))
  have c155 : IAr Z h138 b40 .boolean z_a4 c_a4 := c134.other W138 (Ne.symm ne_a1_b40)
  have c156 : Exa Z h138 b40 "[Z" := c135.wr W138
  have c157 : IAr Z h138 b77 .int z_a3 (fun _ => 0) := c136.other W138 (Ne.symm ne_a1_b77)
  have c158 : IAr Z h138 b117 .int z_a3 (fun _ => 0) := c137.other W138 (Ne.symm ne_a1_b117)
  obtain ⟨T159, h159, k159, X159, e159, E159, A159, st159⟩ := newP X138 hx hZ (hw _ (List.mem_of_getElem? (i := 0) rfl)) e138 (g := (mkF m 48 #[.val (.ref a1), .val (.ref a2), .val (.ref a3), .val (.ref a4), .val (.int z_a3), .unset, .unset, .unset, .unset] [(.int z_a3), (.ref a1)])) rfl (hb hby d5_48) rfl (by rw [hz3]; decide) (cap := 3) (by rw [hz3]; decide) (by decide) (by decide) (by decide)
  obtain ⟨b159, g159⟩ : ∃ z, z = h138.size := ⟨_, rfl⟩
  rw [← g159] at A159 st159
  have ne_a1_b159 : a1 ≠ b159 := Nat.ne_of_lt (Nat.lt_of_lt_of_le c140.lt (Nat.le_of_eq g159.symm))
  have ne_a2_b159 : a2 ≠ b159 := Nat.ne_of_lt (Nat.lt_of_lt_of_le c150.lt (Nat.le_of_eq g159.symm))
  have ne_a3_b159 : a3 ≠ b159 := Nat.ne_of_lt (Nat.lt_of_lt_of_le c151.lt (Nat.le_of_eq g159.symm))
  have ne_a4_b159 : a4 ≠ b159 := Nat.ne_of_lt (Nat.lt_of_lt_of_le c152.lt (Nat.le_of_eq g159.symm))
  have ne_b40_b159 : b40 ≠ b159 := Nat.ne_of_lt (Nat.lt_of_lt_of_le c155.lt (Nat.le_of_eq g159.symm))
  have ne_b77_b159 : b77 ≠ b159 := Nat.ne_of_lt (Nat.lt_of_lt_of_le c157.lt (Nat.le_of_eq g159.symm))
  have ne_b117_b159 : b117 ≠ b159 := Nat.ne_of_lt (Nat.lt_of_lt_of_le c158.lt (Nat.le_of_eq g159.symm))
  have g_b159 : n0 ≤ b159 := Nat.le_trans c139 (Nat.le_of_eq g159.symm)
  have sz_b159 : h0.size ≤ b159 := Nat.le_trans c154.1 (Nat.le_of_eq g159.symm)
  have c160 : n0 ≤ h159.size := Nat.le_trans c139 E159.1
  have c161 : Exa Z h159 a1 "com/example/podflow/podflow/simulation/Ballot" := c140.ext E159
  have c162 : Fld Z h159 a1 "com/example/podflow/podflow/simulation/Ballot" "idleAt" "[I" (.ref a2) := c141.ext E159
  have c163 : Fld Z h159 a1 "com/example/podflow/podflow/simulation/Ballot" "idleCount" "[I" (.ref a3) := c142.ext E159
  have c164 : Fld Z h159 a1 "com/example/podflow/podflow/simulation/Ballot" "open" "[Z" (.ref b40) := c143.ext E159
  have c165 : Fld Z h159 a1 "com/example/podflow/podflow/simulation/Ballot" "served" "[I" (.ref b77) := c144.ext E159
  have c166 : Fld Z h159 a1 "com/example/podflow/podflow/simulation/Ballot" "servedHome" "[I" (.ref b117) := c145.ext E159
  have c167 : Fld Z h159 a1 "com/example/podflow/podflow/simulation/Ballot" "ownLeaving" "[I" .null := c146.ext E159
  have c168 : Fld Z h159 a1 "com/example/podflow/podflow/simulation/Ballot" "anyLeaving" "[I" .null := c147.ext E159
  have c169 : Fld Z h159 a1 "com/example/podflow/podflow/simulation/Ballot" "counted" "[Z" .null := c148.ext E159
  have c170 : Fld Z h159 a1 "com/example/podflow/podflow/simulation/Ballot" "unsettled" "I" (.int w_unsettled_a1) := c149.ext E159
  have c171 : IAr Z h159 a2 .int z_a2 c_a2 := c150.ext E159
  have c172 : IAr Z h159 a3 .int z_a3 c_a3 := c151.ext E159
  have c173 : IAr Z h159 a4 .boolean z_a4 c_a4 := c152.ext E159
  have c174 : Exa Z h159 a4 "[Z" := c153.ext E159
  have c175 : Keep h0 h159 [a1] := c154.ext E159
  have c176 : IAr Z h159 b40 .boolean z_a4 c_a4 := c155.ext E159
  have c177 : Exa Z h159 b40 "[Z" := c156.ext E159
  have c178 : IAr Z h159 b77 .int z_a3 (fun _ => 0) := c157.ext E159
  have c179 : IAr Z h159 b117 .int z_a3 (fun _ => 0) := c158.ext E159
  have c180 : IAr Z h159 b159 .int z_a3 (fun _ => 0) := IAr.new A159 (by rw [hz3]; decide) rfl
  obtain ⟨T181, h181, X181, e181, W181, st181⟩ := putF X159 hx hZ hown (host := "") (Or.inl (hw _ (List.mem_of_getElem? (i := 54) rfl))) Via.refl e159 c167 c161 (Or.inr ⟨(hw _ (List.mem_of_getElem? (i := 55) rfl)), rfl, hnm⟩) (hw _ (List.mem_of_getElem? (i := 29) rfl)) (ty := (.array .int)) (by decide) rfl rfl (g := (mkF m 50 #[.val (.ref a1), .val (.ref a2), .val (.ref a3), .val (.ref a4), .val (.int z_a3), .unset, .unset, .unset, .unset] [(.ref b159), (.ref a1)])) rfl rfl (hb hby d5_50)
  have N181 := Fr.snoc X181 N138 g_a1
  have c182 : n0 ≤ h181.size := Nat.le_trans c160 (Keep.of_wr W181).1
  have c183 : Exa Z h181 a1 "com/example/podflow/podflow/simulation/Ballot" := c161.wr W181
  have c184 : Fld Z h181 a1 "com/example/podflow/podflow/simulation/Ballot" "idleAt" "[I" (.ref a2) := c162.other W181 (Or.inr (slot_ne (Or.inr (hw _ (List.mem_of_getElem? (i := 36) rfl))) (Or.inr (hw _ (List.mem_of_getElem? (i := 55) rfl))) (by decide) (t := (.array .int)) (t' := (.array .int)) (by decide) (by decide)))
  have c185 : Fld Z h181 a1 "com/example/podflow/podflow/simulation/Ballot" "idleCount" "[I" (.ref a3) := c163.other W181 (Or.inr (slot_ne (Or.inr (hw _ (List.mem_of_getElem? (i := 38) rfl))) (Or.inr (hw _ (List.mem_of_getElem? (i := 55) rfl))) (by decide) (t := (.array .int)) (t' := (.array .int)) (by decide) (by decide)))
  have c186 : Fld Z h181 a1 "com/example/podflow/podflow/simulation/Ballot" "open" "[Z" (.ref b40) := c164.other W181 (Or.inr (slot_ne (Or.inr (hw _ (List.mem_of_getElem? (i := 49) rfl))) (Or.inr (hw _ (List.mem_of_getElem? (i := 55) rfl))) (by decide) (t := (.array .boolean)) (t' := (.array .int)) (by decide) (by decide)))
  have c187 : Fld Z h181 a1 "com/example/podflow/podflow/simulation/Ballot" "served" "[I" (.ref b77) := c165.other W181 (Or.inr (slot_ne (Or.inr (hw _ (List.mem_of_getElem? (i := 51) rfl))) (Or.inr (hw _ (List.mem_of_getElem? (i := 55) rfl))) (by decide) (t := (.array .int)) (t' := (.array .int)) (by decide) (by decide)))
  have c188 : Fld Z h181 a1 "com/example/podflow/podflow/simulation/Ballot" "servedHome" "[I" (.ref b117) := c166.other W181 (Or.inr (slot_ne (Or.inr (hw _ (List.mem_of_getElem? (i := 53) rfl))) (Or.inr (hw _ (List.mem_of_getElem? (i := 55) rfl))) (by decide) (t := (.array .int)) (t' := (.array .int)) (by decide) (by decide)))
  have c189 : Fld Z h181 a1 "com/example/podflow/podflow/simulation/Ballot" "ownLeaving" "[I" (.ref b159) := c167.same W181
  have c190 : Fld Z h181 a1 "com/example/podflow/podflow/simulation/Ballot" "anyLeaving" "[I" .null := c168.other W181 (Or.inr (slot_ne (Or.inr (hw _ (List.mem_of_getElem? (i := 57) rfl))) (Or.inr (hw _ (List.mem_of_getElem? (i := 55) rfl))) (by decide) (t := (.array .int)) (t' := (.array .int)) (by decide) (by decide)))
  have c191 : Fld Z h181 a1 "com/example/podflow/podflow/simulation/Ballot" "counted" "[Z" .null := c169.other W181 (Or.inr (slot_ne (Or.inr (hw _ (List.mem_of_getElem? (i := 59) rfl))) (Or.inr (hw _ (List.mem_of_getElem? (i := 55) rfl))) (by decide) (t := (.array .boolean)) (t' := (.array .int)) (by decide) (by decide)))
  have c192 : Fld Z h181 a1 "com/example/podflow/podflow/simulation/Ballot" "unsettled" "I" (.int w_unsettled_a1) := c170.other W181 (Or.inr (slot_ne (Or.inl (hw _ (List.mem_of_getElem? (i := 65) rfl))) (Or.inr (hw _ (List.mem_of_getElem? (i := 55) rfl))) (by decide) (t := .int) (t' := (.array .int)) (by decide) (by decide)))
  have c193 : IAr Z h181 a2 .int z_a2 c_a2 := c171.other W181 (Ne.symm ne_a1_a2)
  have c194 : IAr Z h181 a3 .int z_a3 c_a3 := c172.other W181 (Ne.symm ne_a1_a3)
  have c195 : IAr Z h181 a4 .boolean z_a4 c_a4 := c173.other W181 (Ne.symm ne_a1_a4)
  have c196 : Exa Z h181 a4 "[Z" := c174.wr W181
  have c197 : Keep h0 h181 [a1] := c175.wr W181 (Or.inl (List.mem_of_getElem? (i := 0) rfl))
  have c198 : IAr Z h181 b40 .boolean z_a4 c_a4 := c176.other W181 (Ne.symm ne_a1_b40)
  have c199 : Exa Z h181 b40 "[Z" := c177.wr W181
  have c200 : IAr Z h181 b77 .int z_a3 (fun _ => 0) := c178.other W181 (Ne.symm ne_a1_b77)
  have c201 : IAr Z h181 b117 .int z_a3 (fun _ => 0) := c179.other W181 (Ne.symm ne_a1_b117)
  have c202 : IAr Z h181 b159 .int z_a3 (fun _ => 0) := c180.other W181 (Ne.symm ne_a1_b159)
  obtain ⟨T203, h203, k203, X203, e203, E203, A203, st203⟩ := newP X181 hx hZ (hw _ (List.mem_of_getElem? (i := 0) rfl)) e181 (g := (mkF m 56 #[.val (.ref a1), .val (.ref a2), .val (.ref a3), .val (.ref a4), .val (.int z_a3), .unset, .unset, .unset, .unset] [(.int z_a3), (.ref a1)])) rfl (hb hby d5_56) rfl (by rw [hz3]; decide) (cap := 3) (by rw [hz3]; decide) (by decide) (by decide) (by decide)
  obtain ⟨b203, g203⟩ : ∃ z, z = h181.size := ⟨_, rfl⟩
  rw [← g203] at A203 st203
  have ne_a1_b203 : a1 ≠ b203 := Nat.ne_of_lt (Nat.lt_of_lt_of_le c183.lt (Nat.le_of_eq g203.symm))
  have ne_a2_b203 : a2 ≠ b203 := Nat.ne_of_lt (Nat.lt_of_lt_of_le c193.lt (Nat.le_of_eq g203.symm))
  have ne_a3_b203 : a3 ≠ b203 := Nat.ne_of_lt (Nat.lt_of_lt_of_le c194.lt (Nat.le_of_eq g203.symm))
  have ne_a4_b203 : a4 ≠ b203 := Nat.ne_of_lt (Nat.lt_of_lt_of_le c195.lt (Nat.le_of_eq g203.symm))
  have ne_b40_b203 : b40 ≠ b203 := Nat.ne_of_lt (Nat.lt_of_lt_of_le c198.lt (Nat.le_of_eq g203.symm))
  have ne_b77_b203 : b77 ≠ b203 := Nat.ne_of_lt (Nat.lt_of_lt_of_le c200.lt (Nat.le_of_eq g203.symm))
  have ne_b117_b203 : b117 ≠ b203 := Nat.ne_of_lt (Nat.lt_of_lt_of_le c201.lt (Nat.le_of_eq g203.symm))
  have ne_b159_b203 : b159 ≠ b203 := Nat.ne_of_lt (Nat.lt_of_lt_of_le c202.lt (Nat.le_of_eq g203.symm))
  have g_b203 : n0 ≤ b203 := Nat.le_trans c182 (Nat.le_of_eq g203.symm)
  have sz_b203 : h0.size ≤ b203 := Nat.le_trans c197.1 (Nat.le_of_eq g203.symm)
  have c204 : n0 ≤ h203.size := Nat.le_trans c182 E203.1
  have c205 : Exa Z h203 a1 "com/example/podflow/podflow/simulation/Ballot" := c183.ext E203
  have c206 : Fld Z h203 a1 "com/example/podflow/podflow/simulation/Ballot" "idleAt" "[I" (.ref a2) := c184.ext E203
  have c207 : Fld Z h203 a1 "com/example/podflow/podflow/simulation/Ballot" "idleCount" "[I" (.ref a3) := c185.ext E203
  have c208 : Fld Z h203 a1 "com/example/podflow/podflow/simulation/Ballot" "open" "[Z" (.ref b40) := c186.ext E203
  have c209 : Fld Z h203 a1 "com/example/podflow/podflow/simulation/Ballot" "served" "[I" (.ref b77) := c187.ext E203
  have c210 : Fld Z h203 a1 "com/example/podflow/podflow/simulation/Ballot" "servedHome" "[I" (.ref b117) := c188.ext E203
  have c211 : Fld Z h203 a1 "com/example/podflow/podflow/simulation/Ballot" "ownLeaving" "[I" (.ref b159) := c189.ext E203
  have c212 : Fld Z h203 a1 "com/example/podflow/podflow/simulation/Ballot" "anyLeaving" "[I" .null := c190.ext E203
  have c213 : Fld Z h203 a1 "com/example/podflow/podflow/simulation/Ballot" "counted" "[Z" .null := c191.ext E203
  have c214 : Fld Z h203 a1 "com/example/podflow/podflow/simulation/Ballot" "unsettled" "I" (.int w_unsettled_a1) := c192.ext E203
  have c215 : IAr Z h203 a2 .int z_a2 c_a2 := c193.ext E203
  have c216 : IAr Z h203 a3 .int z_a3 c_a3 := c194.ext E203
  have c217 : IAr Z h203 a4 .boolean z_a4 c_a4 := c195.ext E203
  have c218 : Exa Z h203 a4 "[Z" := c196.ext E203
  have c219 : Keep h0 h203 [a1] := c197.ext E203
  have c220 : IAr Z h203 b40 .boolean z_a4 c_a4 := c198.ext E203
  have c221 : Exa Z h203 b40 "[Z" := c199.ext E203
  have c222 : IAr Z h203 b77 .int z_a3 (fun _ => 0) := c200.ext E203
  have c223 : IAr Z h203 b117 .int z_a3 (fun _ => 0) := c201.ext E203
  have c224 : IAr Z h203 b159 .int z_a3 (fun _ => 0) := c202.ext E203
  have c225 : IAr Z h203 b203 .int z_a3 (fun _ => 0) := IAr.new A203 (by rw [hz3]; decide) rfl
  obtain ⟨T226, h226, X226, e226, W226, st226⟩ := putF X203 hx hZ hown (host := "") (Or.inl (hw _ (List.mem_of_getElem? (i := 56) rfl))) Via.refl e203 c212 c205 (Or.inr ⟨(hw _ (List.mem_of_getElem? (i := 57) rfl)), rfl, hnm⟩) (hw _ (List.mem_of_getElem? (i := 29) rfl)) (ty := (.array .int)) (by decide) rfl rfl (g := (mkF m 58 #[.val (.ref a1), .val (.ref a2), .val (.ref a3), .val (.ref a4), .val (.int z_a3), .unset, .unset, .unset, .unset] [(.ref b203), (.ref a1)])) rfl rfl (hb hby d5_58)
  have N226 := Fr.snoc X226 N181 g_a1
  have c227 : n0 ≤ h226.size := Nat.le_trans c204 (Keep.of_wr W226).1
  have c228 : Exa Z h226 a1 "com/example/podflow/podflow/simulation/Ballot" := c205.wr W226
  have c229 : Fld Z h226 a1 "com/example/podflow/podflow/simulation/Ballot" "idleAt" "[I" (.ref a2) := c206.other W226 (Or.inr (slot_ne (Or.inr (hw _ (List.mem_of_getElem? (i := 36) rfl))) (Or.inr (hw _ (List.mem_of_getElem? (i := 57) rfl))) (by decide) (t := (.array .int)) (t' := (.array .int)) (by decide) (by decide)))
  have c230 : Fld Z h226 a1 "com/example/podflow/podflow/simulation/Ballot" "idleCount" "[I" (.ref a3) := c207.other W226 (Or.inr (slot_ne (Or.inr (hw _ (List.mem_of_getElem? (i := 38) rfl))) (Or.inr (hw _ (List.mem_of_getElem? (i := 57) rfl))) (by decide) (t := (.array .int)) (t' := (.array .int)) (by decide) (by decide)))
  have c231 : Fld Z h226 a1 "com/example/podflow/podflow/simulation/Ballot" "open" "[Z" (.ref b40) := c208.other W226 (Or.inr (slot_ne (Or.inr (hw _ (List.mem_of_getElem? (i := 49) rfl))) (Or.inr (hw _ (List.mem_of_getElem? (i := 57) rfl))) (by decide) (t := (.array .boolean)) (t' := (.array .int)) (by decide) (by decide)))
  have c232 : Fld Z h226 a1 "com/example/podflow/podflow/simulation/Ballot" "served" "[I" (.ref b77) := c209.other W226 (Or.inr (slot_ne (Or.inr (hw _ (List.mem_of_getElem? (i := 51) rfl))) (Or.inr (hw _ (List.mem_of_getElem? (i := 57) rfl))) (by decide) (t := (.array .int)) (t' := (.array .int)) (by decide) (by decide)))
  have c233 : Fld Z h226 a1 "com/example/podflow/podflow/simulation/Ballot" "servedHome" "[I" (.ref b117) := c210.other W226 (Or.inr (slot_ne (Or.inr (hw _ (List.mem_of_getElem? (i := 53) rfl))) (Or.inr (hw _ (List.mem_of_getElem? (i := 57) rfl))) (by decide) (t := (.array .int)) (t' := (.array .int)) (by decide) (by decide)))
  have c234 : Fld Z h226 a1 "com/example/podflow/podflow/simulation/Ballot" "ownLeaving" "[I" (.ref b159) := c211.other W226 (Or.inr (slot_ne (Or.inr (hw _ (List.mem_of_getElem? (i := 55) rfl))) (Or.inr (hw _ (List.mem_of_getElem? (i := 57) rfl))) (by decide) (t := (.array .int)) (t' := (.array .int)) (by decide) (by decide)))
  have c235 : Fld Z h226 a1 "com/example/podflow/podflow/simulation/Ballot" "anyLeaving" "[I" (.ref b203) := c212.same W226
  have c236 : Fld Z h226 a1 "com/example/podflow/podflow/simulation/Ballot" "counted" "[Z" .null := c213.other W226 (Or.inr (slot_ne (Or.inr (hw _ (List.mem_of_getElem? (i := 59) rfl))) (Or.inr (hw _ (List.mem_of_getElem? (i := 57) rfl))) (by decide) (t := (.array .boolean)) (t' := (.array .int)) (by decide) (by decide)))
  have c237 : Fld Z h226 a1 "com/example/podflow/podflow/simulation/Ballot" "unsettled" "I" (.int w_unsettled_a1) := c214.other W226 (Or.inr (slot_ne (Or.inl (hw _ (List.mem_of_getElem? (i := 65) rfl))) (Or.inr (hw _ (List.mem_of_getElem? (i := 57) rfl))) (by decide) (t := .int) (t' := (.array .int)) (by decide) (by decide)))
  have c238 : IAr Z h226 a2 .int z_a2 c_a2 := c215.other W226 (Ne.symm ne_a1_a2)
  have c239 : IAr Z h226 a3 .int z_a3 c_a3 := c216.other W226 (Ne.symm ne_a1_a3)
  have c240 : IAr Z h226 a4 .boolean z_a4 c_a4 := c217.other W226 (Ne.symm ne_a1_a4)
  have c241 : Exa Z h226 a4 "[Z" := c218.wr W226
  have c242 : Keep h0 h226 [a1] := c219.wr W226 (Or.inl (List.mem_of_getElem? (i := 0) rfl))
  have c243 : IAr Z h226 b40 .boolean z_a4 c_a4 := c220.other W226 (Ne.symm ne_a1_b40)
  have c244 : Exa Z h226 b40 "[Z" := c221.wr W226
  have c245 : IAr Z h226 b77 .int z_a3 (fun _ => 0) := c222.other W226 (Ne.symm ne_a1_b77)
  have c246 : IAr Z h226 b117 .int z_a3 (fun _ => 0) := c223.other W226 (Ne.symm ne_a1_b117)
  have c247 : IAr Z h226 b159 .int z_a3 (fun _ => 0) := c224.other W226 (Ne.symm ne_a1_b159)
  have c248 : IAr Z h226 b203 .int z_a3 (fun _ => 0) := c225.other W226 (Ne.symm ne_a1_b203)
  obtain ⟨T249, h249, k249, X249, e249, E249, A249, st249⟩ := newP X226 hx hZ (hw _ (List.mem_of_getElem? (i := 5) rfl)) e226 (g := (mkF m 64 #[.val (.ref a1), .val (.ref a2), .val (.ref a3), .val (.ref a4), .val (.int z_a3), .unset, .unset, .unset, .unset] [(.int z_a2), (.ref a1)])) rfl (hb hby d5_64) rfl (by rw [hz2]; decide) (cap := 3) (by rw [hz2]; decide) (by decide) (by decide) (by decide)
  obtain ⟨b249, g249⟩ : ∃ z, z = h226.size := ⟨_, rfl⟩
  rw [← g249] at A249 st249
  have ne_a1_b249 : a1 ≠ b249 := Nat.ne_of_lt (Nat.lt_of_lt_of_le c228.lt (Nat.le_of_eq g249.symm))
  have ne_a2_b249 : a2 ≠ b249 := Nat.ne_of_lt (Nat.lt_of_lt_of_le c238.lt (Nat.le_of_eq g249.symm))
  have ne_a3_b249 : a3 ≠ b249 := Nat.ne_of_lt (Nat.lt_of_lt_of_le c239.lt (Nat.le_of_eq g249.symm))
  have ne_a4_b249 : a4 ≠ b249 := Nat.ne_of_lt (Nat.lt_of_lt_of_le c240.lt (Nat.le_of_eq g249.symm))
  have ne_b40_b249 : b40 ≠ b249 := Nat.ne_of_lt (Nat.lt_of_lt_of_le c243.lt (Nat.le_of_eq g249.symm))
  have ne_b77_b249 : b77 ≠ b249 := Nat.ne_of_lt (Nat.lt_of_lt_of_le c245.lt (Nat.le_of_eq g249.symm))
  have ne_b117_b249 : b117 ≠ b249 := Nat.ne_of_lt (Nat.lt_of_lt_of_le c246.lt (Nat.le_of_eq g249.symm))
  have ne_b159_b249 : b159 ≠ b249 := Nat.ne_of_lt (Nat.lt_of_lt_of_le c247.lt (Nat.le_of_eq g249.symm))
  have ne_b203_b249 : b203 ≠ b249 := Nat.ne_of_lt (Nat.lt_of_lt_of_le c248.lt (Nat.le_of_eq g249.symm))
  have g_b249 : n0 ≤ b249 := Nat.le_trans c227 (Nat.le_of_eq g249.symm)
  have sz_b249 : h0.size ≤ b249 := Nat.le_trans c242.1 (Nat.le_of_eq g249.symm)
  have c250 : n0 ≤ h249.size := Nat.le_trans c227 E249.1
  have c251 : Exa Z h249 a1 "com/example/podflow/podflow/simulation/Ballot" := c228.ext E249
  have c252 : Fld Z h249 a1 "com/example/podflow/podflow/simulation/Ballot" "idleAt" "[I" (.ref a2) := c229.ext E249
  have c253 : Fld Z h249 a1 "com/example/podflow/podflow/simulation/Ballot" "idleCount" "[I" (.ref a3) := c230.ext E249
  have c254 : Fld Z h249 a1 "com/example/podflow/podflow/simulation/Ballot" "open" "[Z" (.ref b40) := c231.ext E249
  have c255 : Fld Z h249 a1 "com/example/podflow/podflow/simulation/Ballot" "served" "[I" (.ref b77) := c232.ext E249
  have c256 : Fld Z h249 a1 "com/example/podflow/podflow/simulation/Ballot" "servedHome" "[I" (.ref b117) := c233.ext E249
  have c257 : Fld Z h249 a1 "com/example/podflow/podflow/simulation/Ballot" "ownLeaving" "[I" (.ref b159) := c234.ext E249
  have c258 : Fld Z h249 a1 "com/example/podflow/podflow/simulation/Ballot" "anyLeaving" "[I" (.ref b203) := c235.ext E249
  have c259 : Fld Z h249 a1 "com/example/podflow/podflow/simulation/Ballot" "counted" "[Z" .null := c236.ext E249
  have c260 : Fld Z h249 a1 "com/example/podflow/podflow/simulation/Ballot" "unsettled" "I" (.int w_unsettled_a1) := c237.ext E249
  have c261 : IAr Z h249 a2 .int z_a2 c_a2 := c238.ext E249
  have c262 : IAr Z h249 a3 .int z_a3 c_a3 := c239.ext E249
  have c263 : IAr Z h249 a4 .boolean z_a4 c_a4 := c240.ext E249
  have c264 : Exa Z h249 a4 "[Z" := c241.ext E249
  have c265 : Keep h0 h249 [a1] := c242.ext E249
  have c266 : IAr Z h249 b40 .boolean z_a4 c_a4 := c243.ext E249
  have c267 : Exa Z h249 b40 "[Z" := c244.ext E249
  have c268 : IAr Z h249 b77 .int z_a3 (fun _ => 0) := c245.ext E249
  have c269 : IAr Z h249 b117 .int z_a3 (fun _ => 0) := c246.ext E249
  have c270 : IAr Z h249 b159 .int z_a3 (fun _ => 0) := c247.ext E249
  have c271 : IAr Z h249 b203 .int z_a3 (fun _ => 0) := c248.ext E249
  have c272 : IAr Z h249 b249 .boolean z_a2 (fun _ => 0) := IAr.new A249 (by rw [hz2]; decide) rfl
  obtain ⟨T273, h273, X273, e273, W273, st273⟩ := putF X249 hx hZ hown (host := "") (Or.inl (hw _ (List.mem_of_getElem? (i := 58) rfl))) Via.refl e249 c259 c251 (Or.inr ⟨(hw _ (List.mem_of_getElem? (i := 59) rfl)), rfl, hnm⟩) (hw _ (List.mem_of_getElem? (i := 29) rfl)) (ty := (.array .boolean)) (by decide) rfl rfl (g := (mkF m 66 #[.val (.ref a1), .val (.ref a2), .val (.ref a3), .val (.ref a4), .val (.int z_a3), .unset, .unset, .unset, .unset] [(.ref b249), (.ref a1)])) rfl rfl (hb hby d5_66)
  have N273 := Fr.snoc X273 N226 g_a1
  have c274 : n0 ≤ h273.size := Nat.le_trans c250 (Keep.of_wr W273).1
  have c275 : Exa Z h273 a1 "com/example/podflow/podflow/simulation/Ballot" := c251.wr W273
  have c276 : Fld Z h273 a1 "com/example/podflow/podflow/simulation/Ballot" "idleAt" "[I" (.ref a2) := c252.other W273 (Or.inr (slot_ne (Or.inr (hw _ (List.mem_of_getElem? (i := 36) rfl))) (Or.inr (hw _ (List.mem_of_getElem? (i := 59) rfl))) (by decide) (t := (.array .int)) (t' := (.array .boolean)) (by decide) (by decide)))
  have c277 : Fld Z h273 a1 "com/example/podflow/podflow/simulation/Ballot" "idleCount" "[I" (.ref a3) := c253.other W273 (Or.inr (slot_ne (Or.inr (hw _ (List.mem_of_getElem? (i := 38) rfl))) (Or.inr (hw _ (List.mem_of_getElem? (i := 59) rfl))) (by decide) (t := (.array .int)) (t' := (.array .boolean)) (by decide) (by decide)))
  have c278 : Fld Z h273 a1 "com/example/podflow/podflow/simulation/Ballot" "open" "[Z" (.ref b40) := c254.other W273 (Or.inr (slot_ne (Or.inr (hw _ (List.mem_of_getElem? (i := 49) rfl))) (Or.inr (hw _ (List.mem_of_getElem? (i := 59) rfl))) (by decide) (t := (.array .boolean)) (t' := (.array .boolean)) (by decide) (by decide)))
  have c279 : Fld Z h273 a1 "com/example/podflow/podflow/simulation/Ballot" "served" "[I" (.ref b77) := c255.other W273 (Or.inr (slot_ne (Or.inr (hw _ (List.mem_of_getElem? (i := 51) rfl))) (Or.inr (hw _ (List.mem_of_getElem? (i := 59) rfl))) (by decide) (t := (.array .int)) (t' := (.array .boolean)) (by decide) (by decide)))
  have c280 : Fld Z h273 a1 "com/example/podflow/podflow/simulation/Ballot" "servedHome" "[I" (.ref b117) := c256.other W273 (Or.inr (slot_ne (Or.inr (hw _ (List.mem_of_getElem? (i := 53) rfl))) (Or.inr (hw _ (List.mem_of_getElem? (i := 59) rfl))) (by decide) (t := (.array .int)) (t' := (.array .boolean)) (by decide) (by decide)))
  have c281 : Fld Z h273 a1 "com/example/podflow/podflow/simulation/Ballot" "ownLeaving" "[I" (.ref b159) := c257.other W273 (Or.inr (slot_ne (Or.inr (hw _ (List.mem_of_getElem? (i := 55) rfl))) (Or.inr (hw _ (List.mem_of_getElem? (i := 59) rfl))) (by decide) (t := (.array .int)) (t' := (.array .boolean)) (by decide) (by decide)))
  have c282 : Fld Z h273 a1 "com/example/podflow/podflow/simulation/Ballot" "anyLeaving" "[I" (.ref b203) := c258.other W273 (Or.inr (slot_ne (Or.inr (hw _ (List.mem_of_getElem? (i := 57) rfl))) (Or.inr (hw _ (List.mem_of_getElem? (i := 59) rfl))) (by decide) (t := (.array .int)) (t' := (.array .boolean)) (by decide) (by decide)))
  have c283 : Fld Z h273 a1 "com/example/podflow/podflow/simulation/Ballot" "counted" "[Z" (.ref b249) := c259.same W273
  have c284 : Fld Z h273 a1 "com/example/podflow/podflow/simulation/Ballot" "unsettled" "I" (.int w_unsettled_a1) := c260.other W273 (Or.inr (slot_ne (Or.inl (hw _ (List.mem_of_getElem? (i := 65) rfl))) (Or.inr (hw _ (List.mem_of_getElem? (i := 59) rfl))) (by decide) (t := .int) (t' := (.array .boolean)) (by decide) (by decide)))
  have c285 : IAr Z h273 a2 .int z_a2 c_a2 := c261.other W273 (Ne.symm ne_a1_a2)
  have c286 : IAr Z h273 a3 .int z_a3 c_a3 := c262.other W273 (Ne.symm ne_a1_a3)
  have c287 : IAr Z h273 a4 .boolean z_a4 c_a4 := c263.other W273 (Ne.symm ne_a1_a4)
  have c288 : Exa Z h273 a4 "[Z" := c264.wr W273
  have c289 : Keep h0 h273 [a1] := c265.wr W273 (Or.inl (List.mem_of_getElem? (i := 0) rfl))
  have c290 : IAr Z h273 b40 .boolean z_a4 c_a4 := c266.other W273 (Ne.symm ne_a1_b40)
  have c291 : Exa Z h273 b40 "[Z" := c267.wr W273
  have c292 : IAr Z h273 b77 .int z_a3 (fun _ => 0) := c268.other W273 (Ne.symm ne_a1_b77)
  have c293 : IAr Z h273 b117 .int z_a3 (fun _ => 0) := c269.other W273 (Ne.symm ne_a1_b117)
  have c294 : IAr Z h273 b159 .int z_a3 (fun _ => 0) := c270.other W273 (Ne.symm ne_a1_b159)
  have c295 : IAr Z h273 b203 .int z_a3 (fun _ => 0) := c271.other W273 (Ne.symm ne_a1_b203)
  have c296 : IAr Z h273 b249 .boolean z_a2 (fun _ => 0) := c272.other W273 (Ne.symm ne_a1_b249)
  obtain ⟨T297, X297, e297, st297⟩ := getF X273 hx hZ hown (host := "") (Or.inl (hw _ (List.mem_of_getElem? (i := 54) rfl))) Via.refl e273 c281 (g := (mkF m 70 #[.val (.ref a1), .val (.ref a2), .val (.ref a3), .val (.ref a4), .val (.int z_a3), .unset, .unset, .unset, .unset] [(.ref a1)])) rfl rfl (hb hby d5_70)
  obtain ⟨_, _, ⟨T298, L298, k298, n298⟩, -, X298, ⟨Lc298, hQ298, l298, y298, z298⟩, st298⟩ := Jvm.LawKit.callS X297 hx (y := (⟨"java/util/Arrays", "fill", "([II)V"⟩ : MethodName)) hown (mvT hZ (hw _ (List.mem_of_getElem? (i := 60) rfl))) (mvT hZ (hw _ (List.mem_of_getElem? (i := 61) rfl))) (mvT hZ (hw _ (List.mem_of_getElem? (i := 62) rfl))) (mvT hZ (hw _ (List.mem_of_getElem? (i := 63) rfl))) (by decide) (backOf (W := 0) (rm6 l Z a0 hw [] b159 (-1 : Int32) z_a3 (fun _ => 0) h273 n0 c274 c294 g_b159 hz3) hZ (hw _ (List.mem_of_getElem? (i := 63) rfl)) (hw _ (List.mem_of_getElem? (i := 62) rfl)) (by decide) (by decide)) (g := (mkF m 74 #[.val (.ref a1), .val (.ref a2), .val (.ref a3), .val (.ref a4), .val (.int z_a3), .unset, .unset, .unset, .unset] [(.int (-1 : Int32)), (.ref b159)])) rfl (by rw [hml]; rfl) (argsL := [(.ref b159), (.int (-1 : Int32))]) (rest := []) (lenOf pd_1 rfl) rfl (by show 2 * 0 + _ ≤ _; exact Nat.le_of_eq rfl) (hb hby d5_74) (fun _ _ => ⟨rfl, e297, (by decide : 6 + 0 ≤ _), (by decide : 18 + 0 ≤ _)⟩)
  dsimp only [Pt.U, Pt.locs, Pt.cells, Pt.slots] at X298 l298 y298 z298 st298 hQ298
  subst l298 y298 z298
  obtain ⟨rfl, N298q, K298, o298_0⟩ := hQ298
  have N298 := Fr.app N273 N298q
  have c299 : n0 ≤ T298.heap.size := Nat.le_trans c274 K298.1
  have c300 : Exa Z T298.heap a1 "com/example/podflow/podflow/simulation/Ballot" := c275.keep K298
  have c301 : Fld Z T298.heap a1 "com/example/podflow/podflow/simulation/Ballot" "idleAt" "[I" (.ref a2) := c276.keep K298 (ninS ne_a1_b159 nin0)
  have c302 : Fld Z T298.heap a1 "com/example/podflow/podflow/simulation/Ballot" "idleCount" "[I" (.ref a3) := c277.keep K298 (ninS ne_a1_b159 nin0)
  have c303 : Fld Z T298.heap a1 "com/example/podflow/podflow/simulation/Ballot" "open" "[Z" (.ref b40) := c278.keep K298 (ninS ne_a1_b159 nin0)
  have c304 : Fld Z T298.heap a1 "com/example/podflow/podflow/simulation/Ballot" "served" "[I" (.ref b77) := c279.keep K298 (ninS ne_a1_b159 nin0)
  have c305 : Fld Z T298.heap a1 "com/example/podflow/podflow/simulation/Ballot" "servedHome" "[I" (.ref b117) := c280.keep K298 (ninS ne_a1_b159 nin0)
  have c306 : Fld Z T298.heap a1 "com/example/podflow/podflow/simulation/Ballot" "ownLeaving" "[I" (.ref b159) := c281.keep K298 (ninS ne_a1_b159 nin0)
  have c307 : Fld Z T298.heap a1 "com/example/podflow/podflow/simulation/Ballot" "anyLeaving" "[I" (.ref b203) := c282.keep K298 (ninS ne_a1_b159 nin0)
  have c308 : Fld Z T298.heap a1 "com/example/podflow/podflow/simulation/Ballot" "counted" "[Z" (.ref b249) := c283.keep K298 (ninS ne_a1_b159 nin0)
  have c309 : Fld Z T298.heap a1 "com/example/podflow/podflow/simulation/Ballot" "unsettled" "I" (.int w_unsettled_a1) := c284.keep K298 (ninS ne_a1_b159 nin0)
  have c310 : IAr Z T298.heap a2 .int z_a2 c_a2 := c285.keep K298 (ninS ne_a2_b159 nin0)
  have c311 : IAr Z T298.heap a3 .int z_a3 c_a3 := c286.keep K298 (ninS ne_a3_b159 nin0)
  have c312 : IAr Z T298.heap a4 .boolean z_a4 c_a4 := c287.keep K298 (ninS ne_a4_b159 nin0)
  have c313 : Exa Z T298.heap a4 "[Z" := c288.keep K298
  have c314 : Keep h0 T298.heap [a1] := c289.trans K298 (allS (Or.inr sz_b159) all0)
  have c315 : IAr Z T298.heap b40 .boolean z_a4 c_a4 := c290.keep K298 (ninS ne_b40_b159 nin0)
  have c316 : Exa Z T298.heap b40 "[Z" := c291.keep K298
  have c317 : IAr Z T298.heap b77 .int z_a3 (fun _ => 0) := c292.keep K298 (ninS ne_b77_b159 nin0)
  have c318 : IAr Z T298.heap b117 .int z_a3 (fun _ => 0) := c293.keep K298 (ninS ne_b117_b159 nin0)
  have c319 : IAr Z T298.heap b159 .int z_a3 (f6_o0 (-1 : Int32) z_a3 (fun _ => 0)) := o298_0
  have c320 : IAr Z T298.heap b203 .int z_a3 (fun _ => 0) := c295.keep K298 (ninS (Ne.symm ne_b159_b203) nin0)
  have c321 : IAr Z T298.heap b249 .boolean z_a2 (fun _ => 0) := c296.keep K298 (ninS (Ne.symm ne_b159_b249) nin0)
  obtain ⟨T322, X322, e322, st322⟩ := getF X298 hx hZ hown (host := "") (Or.inl (hw _ (List.mem_of_getElem? (i := 56) rfl))) Via.refl rfl c307 (g := (mkF m 78 #[.val (.ref a1), .val (.ref a2), .val (.ref a3), .val (.ref a4), .val (.int z_a3), .unset, .unset, .unset, .unset] [(.ref a1)])) rfl rfl (hb hby d5_78)
  obtain ⟨_, _, ⟨T323, L323, k323, n323⟩, -, X323, ⟨Lc323, hQ323, l323, y323, z323⟩, st323⟩ := Jvm.LawKit.callS X322 hx (y := (⟨"java/util/Arrays", "fill", "([II)V"⟩ : MethodName)) hown (mvT hZ (hw _ (List.mem_of_getElem? (i := 60) rfl))) (mvT hZ (hw _ (List.mem_of_getElem? (i := 61) rfl))) (mvT hZ (hw _ (List.mem_of_getElem? (i := 62) rfl))) (mvT hZ (hw _ (List.mem_of_getElem? (i := 63) rfl))) (by decide) (backOf (W := 0) (rm6 l Z a0 hw [] b203 (-1 : Int32) z_a3 (fun _ => 0) T298.heap n0 c299 c320 g_b203 hz3) hZ (hw _ (List.mem_of_getElem? (i := 63) rfl)) (hw _ (List.mem_of_getElem? (i := 62) rfl)) (by decide) (by decide)) (g := (mkF m 82 #[.val (.ref a1), .val (.ref a2), .val (.ref a3), .val (.ref a4), .val (.int z_a3), .unset, .unset, .unset, .unset] [(.int (-1 : Int32)), (.ref b203)])) rfl (by rw [hml]; rfl) (argsL := [(.ref b203), (.int (-1 : Int32))]) (rest := []) (lenOf pd_1 rfl) rfl (by show 2 * 0 + _ ≤ _; exact Nat.le_of_eq rfl) (hb hby d5_82) (fun _ _ => ⟨rfl, e322, (by decide : 6 + 0 ≤ _), (by decide : 18 + 0 ≤ _)⟩)
  dsimp only [Pt.U, Pt.locs, Pt.cells, Pt.slots] at X323 l323 y323 z323 st323 hQ323
  subst l323 y323 z323
  obtain ⟨rfl, N323q, K323, o323_0⟩ := hQ323
  have N323 := Fr.app N298 N323q
  have c324 : n0 ≤ T323.heap.size := Nat.le_trans c299 K323.1
  have c325 : Exa Z T323.heap a1 "com/example/podflow/podflow/simulation/Ballot" := c300.keep K323
  have c326 : Fld Z T323.heap a1 "com/example/podflow/podflow/simulation/Ballot" "idleAt" "[I" (.ref a2) := c301.keep K323 (ninS ne_a1_b203 nin0)
  have c327 : Fld Z T323.heap a1 "com/example/podflow/podflow/simulation/Ballot" "idleCount" "[I" (.ref a3) := c302.keep K323 (ninS ne_a1_b203 nin0)
  have c328 : Fld Z T323.heap a1 "com/example/podflow/podflow/simulation/Ballot" "open" "[Z" (.ref b40) := c303.keep K323 (ninS ne_a1_b203 nin0)
  have c329 : Fld Z T323.heap a1 "com/example/podflow/podflow/simulation/Ballot" "served" "[I" (.ref b77) := c304.keep K323 (ninS ne_a1_b203 nin0)
  have c330 : Fld Z T323.heap a1 "com/example/podflow/podflow/simulation/Ballot" "servedHome" "[I" (.ref b117) := c305.keep K323 (ninS ne_a1_b203 nin0)
  have c331 : Fld Z T323.heap a1 "com/example/podflow/podflow/simulation/Ballot" "ownLeaving" "[I" (.ref b159) := c306.keep K323 (ninS ne_a1_b203 nin0)
  have c332 : Fld Z T323.heap a1 "com/example/podflow/podflow/simulation/Ballot" "anyLeaving" "[I" (.ref b203) := c307.keep K323 (ninS ne_a1_b203 nin0)
  have c333 : Fld Z T323.heap a1 "com/example/podflow/podflow/simulation/Ballot" "counted" "[Z" (.ref b249) := c308.keep K323 (ninS ne_a1_b203 nin0)
  have c334 : Fld Z T323.heap a1 "com/example/podflow/podflow/simulation/Ballot" "unsettled" "I" (.int w_unsettled_a1) := c309.keep K323 (ninS ne_a1_b203 nin0)
  have c335 : IAr Z T323.heap a2 .int z_a2 c_a2 := c310.keep K323 (ninS ne_a2_b203 nin0)
  have c336 : IAr Z T323.heap a3 .int z_a3 c_a3 := c311.keep K323 (ninS ne_a3_b203 nin0)
  have c337 : IAr Z T323.heap a4 .boolean z_a4 c_a4 := c312.keep K323 (ninS ne_a4_b203 nin0)
  have c338 : Exa Z T323.heap a4 "[Z" := c313.keep K323
  have c339 : Keep h0 T323.heap [a1] := c314.trans K323 (allS (Or.inr sz_b203) all0)
  have c340 : IAr Z T323.heap b40 .boolean z_a4 c_a4 := c315.keep K323 (ninS ne_b40_b203 nin0)
  have c341 : Exa Z T323.heap b40 "[Z" := c316.keep K323
  have c342 : IAr Z T323.heap b77 .int z_a3 (fun _ => 0) := c317.keep K323 (ninS ne_b77_b203 nin0)
  have c343 : IAr Z T323.heap b117 .int z_a3 (fun _ => 0) := c318.keep K323 (ninS ne_b117_b203 nin0)
  have c344 : IAr Z T323.heap b159 .int z_a3 (f6_o0 (-1 : Int32) z_a3 (fun _ => 0)) := c319.keep K323 (ninS ne_b159_b203 nin0)
  have c345 : IAr Z T323.heap b203 .int z_a3 (f6_o0 (-1 : Int32) z_a3 (fun _ => 0)) := o323_0
  have c346 : IAr Z T323.heap b249 .boolean z_a2 (fun _ => 0) := c321.keep K323 (ninS (Ne.symm ne_b203_b249) nin0)
  have pre1 : ∀ t, Steps p.tables e below (T323.setTop (mkF m 96 #[.val (.ref a1), .val (.ref a2), .val (.ref a3), .val (.ref a4), .val (.int z_a3), .val (.ref a4), .val (.int z_a4), .val (.int (0 : Int32)), .unset] [])) t → Steps p.tables e below (s₁.setTop (entryFrame m #[(.ref a1), (.ref a2), (.ref a3), (.ref a4)] 9)) t := by
    intro t k
    refine pre0 t ?_
    refine XS.aloadN X0.here hx rfl (hb hby d5_0) rfl rfl ?_
    show Steps p.tables e below (s₁.setTop (mkF m 1 #[.val (.ref a1), .val (.ref a2), .val (.ref a3), .val (.ref a4), .unset, .unset, .unset, .unset, .unset] [(.ref a1)])) _
    refine st5 _ ?_
    show Steps p.tables e below (T5.setTop (mkF m 4 #[.val (.ref a1), .val (.ref a2), .val (.ref a3), .val (.ref a4), .unset, .unset, .unset, .unset, .unset] [])) _
    refine XS.aloadN X5.here hx rfl (hb hby d5_4) rfl rfl ?_
    show Steps p.tables e below (T5.setTop (mkF m 5 #[.val (.ref a1), .val (.ref a2), .val (.ref a3), .val (.ref a4), .unset, .unset, .unset, .unset, .unset] [(.ref a3)])) _
    refine alen X5 hx hZ e5 V_a3 (g := (mkF m 5 #[.val (.ref a1), .val (.ref a2), .val (.ref a3), .val (.ref a4), .unset, .unset, .unset, .unset, .unset] [(.ref a3)])) rfl rfl (hb hby d5_5) ?_
    show Steps p.tables e below (T5.setTop (mkF m 6 #[.val (.ref a1), .val (.ref a2), .val (.ref a3), .val (.ref a4), .unset, .unset, .unset, .unset, .unset] [(.int z_a3)])) _
    refine XS.istore X5.here hx rfl (hb hby d5_6) rfl (l' := #[.val (.ref a1), .val (.ref a2), .val (.ref a3), .val (.ref a4), .val (.int z_a3), .unset, .unset, .unset, .unset]) rfl ?_
    refine XS.aloadN X5.here hx rfl (hb hby d5_8) rfl rfl ?_
    refine XS.aloadN X5.here hx rfl (hb hby d5_9) rfl rfl ?_
    show Steps p.tables e below (T5.setTop (mkF m 10 #[.val (.ref a1), .val (.ref a2), .val (.ref a3), .val (.ref a4), .val (.int z_a3), .unset, .unset, .unset, .unset] [(.ref a2), (.ref a1)])) _
    refine st6 _ ?_
    show Steps p.tables e below (T6.setTop (mkF m 13 #[.val (.ref a1), .val (.ref a2), .val (.ref a3), .val (.ref a4), .val (.int z_a3), .unset, .unset, .unset, .unset] [])) _
    refine XS.aloadN X6.here hx rfl (hb hby d5_13) rfl rfl ?_
    refine XS.aloadN X6.here hx rfl (hb hby d5_14) rfl rfl ?_
    show Steps p.tables e below (T6.setTop (mkF m 15 #[.val (.ref a1), .val (.ref a2), .val (.ref a3), .val (.ref a4), .val (.int z_a3), .unset, .unset, .unset, .unset] [(.ref a3), (.ref a1)])) _
    refine st23 _ ?_
    show Steps p.tables e below (T23.setTop (mkF m 18 #[.val (.ref a1), .val (.ref a2), .val (.ref a3), .val (.ref a4), .val (.int z_a3), .unset, .unset, .unset, .unset] [])) _
    refine XS.aloadN X23.here hx rfl (hb hby d5_18) rfl rfl ?_
    refine XS.aloadN X23.here hx rfl (hb hby d5_19) rfl rfl ?_
    show Steps p.tables e below (T23.setTop (mkF m 20 #[.val (.ref a1), .val (.ref a2), .val (.ref a3), .val (.ref a4), .val (.int z_a3), .unset, .unset, .unset, .unset] [(.ref a4), (.ref a1)])) _
    refine st40 _ ?_
    show Steps p.tables e below (T40.setTop (mkF m 23 #[.val (.ref a1), .val (.ref a2), .val (.ref a3), .val (.ref a4), .val (.int z_a3), .unset, .unset, .unset, .unset] [(.ref b40), (.ref a1)])) _
    refine st57 _ ?_
    show Steps p.tables e below (T57.setTop (mkF m 26 #[.val (.ref a1), .val (.ref a2), .val (.ref a3), .val (.ref a4), .val (.int z_a3), .unset, .unset, .unset, .unset] [(.ref b40), (.ref a1)])) _
    refine st58 _ ?_
    show Steps p.tables e below (T58.setTop (mkF m 29 #[.val (.ref a1), .val (.ref a2), .val (.ref a3), .val (.ref a4), .val (.int z_a3), .unset, .unset, .unset, .unset] [])) _
    refine XS.aloadN X58.here hx rfl (hb hby d5_29) rfl rfl ?_
    refine XS.iload X58.here hx rfl (hb hby d5_30) rfl ?_
    show Steps p.tables e below (T58.setTop (mkF m 32 #[.val (.ref a1), .val (.ref a2), .val (.ref a3), .val (.ref a4), .val (.int z_a3), .unset, .unset, .unset, .unset] [(.int z_a3), (.ref a1)])) _
    refine st77 _ ?_
    show Steps p.tables e below (T77.setTop (mkF m 34 #[.val (.ref a1), .val (.ref a2), .val (.ref a3), .val (.ref a4), .val (.int z_a3), .unset, .unset, .unset, .unset] [(.ref b77), (.ref a1)])) _
    refine st97 _ ?_
    show Steps p.tables e below (T97.setTop (mkF m 37 #[.val (.ref a1), .val (.ref a2), .val (.ref a3), .val (.ref a4), .val (.int z_a3), .unset, .unset, .unset, .unset] [])) _
    refine XS.aloadN X97.here hx rfl (hb hby d5_37) rfl rfl ?_
    refine XS.iload X97.here hx rfl (hb hby d5_38) rfl ?_
    show Steps p.tables e below (T97.setTop (mkF m 40 #[.val (.ref a1), .val (.ref a2), .val (.ref a3), .val (.ref a4), .val (.int z_a3), .unset, .unset, .unset, .unset] [(.int z_a3), (.ref a1)])) _
    refine st117 _ ?_
    show Steps p.tables e below (T117.setTop (mkF m 42 #[.val (.ref a1), .val (.ref a2), .val (.ref a3), .val (.ref a4), .val (.int z_a3), .unset, .unset, .unset, .unset] [(.ref b117), (.ref a1)])) _
    refine st138 _ ?_
    show Steps p.tables e below (T138.setTop (mkF m 45 #[.val (.ref a1), .val (.ref a2), .val (.ref a3), .val (.ref a4), .val (.int z_a3), .unset, .unset, .unset, .unset] [])) _
    refine XS.aloadN X138.here hx rfl (hb hby d5_45) rfl rfl ?_
    refine XS.iload X138.here hx rfl (hb hby d5_46) rfl ?_
    show Steps p.tables e below (T138.setTop (mkF m 48 #[.val (.ref a1), .val (.ref a2), .val (.ref a3), .val (.ref a4), .val (.int z_a3), .unset, .unset, .unset, .unset] [(.int z_a3), (.ref a1)])) _
    refine st159 _ ?_
    show Steps p.tables e below (T159.setTop (mkF m 50 #[.val (.ref a1), .val (.ref a2), .val (.ref a3), .val (.ref a4), .val (.int z_a3), .unset, .unset, .unset, .unset] [(.ref b159), (.ref a1)])) _
    refine st181 _ ?_
    show Steps p.tables e below (T181.setTop (mkF m 53 #[.val (.ref a1), .val (.ref a2), .val (.ref a3), .val (.ref a4), .val (.int z_a3), .unset, .unset, .unset, .unset] [])) _
    refine XS.aloadN X181.here hx rfl (hb hby d5_53) rfl rfl ?_
    refine XS.iload X181.here hx rfl (hb hby d5_54) rfl ?_
    show Steps p.tables e below (T181.setTop (mkF m 56 #[.val (.ref a1), .val (.ref a2), .val (.ref a3), .val (.ref a4), .val (.int z_a3), .unset, .unset, .unset, .unset] [(.int z_a3), (.ref a1)])) _
    refine st203 _ ?_
    show Steps p.tables e below (T203.setTop (mkF m 58 #[.val (.ref a1), .val (.ref a2), .val (.ref a3), .val (.ref a4), .val (.int z_a3), .unset, .unset, .unset, .unset] [(.ref b203), (.ref a1)])) _
    refine st226 _ ?_
    show Steps p.tables e below (T226.setTop (mkF m 61 #[.val (.ref a1), .val (.ref a2), .val (.ref a3), .val (.ref a4), .val (.int z_a3), .unset, .unset, .unset, .unset] [])) _
    refine XS.aloadN X226.here hx rfl (hb hby d5_61) rfl rfl ?_
    refine XS.aloadN X226.here hx rfl (hb hby d5_62) rfl rfl ?_
    show Steps p.tables e below (T226.setTop (mkF m 63 #[.val (.ref a1), .val (.ref a2), .val (.ref a3), .val (.ref a4), .val (.int z_a3), .unset, .unset, .unset, .unset] [(.ref a2), (.ref a1)])) _
    refine alen X226 hx hZ e226 c238 (g := (mkF m 63 #[.val (.ref a1), .val (.ref a2), .val (.ref a3), .val (.ref a4), .val (.int z_a3), .unset, .unset, .unset, .unset] [(.ref a2), (.ref a1)])) rfl rfl (hb hby d5_63) ?_
    show Steps p.tables e below (T226.setTop (mkF m 64 #[.val (.ref a1), .val (.ref a2), .val (.ref a3), .val (.ref a4), .val (.int z_a3), .unset, .unset, .unset, .unset] [(.int z_a2), (.ref a1)])) _
    refine st249 _ ?_
    show Steps p.tables e below (T249.setTop (mkF m 66 #[.val (.ref a1), .val (.ref a2), .val (.ref a3), .val (.ref a4), .val (.int z_a3), .unset, .unset, .unset, .unset] [(.ref b249), (.ref a1)])) _
    refine st273 _ ?_
    show Steps p.tables e below (T273.setTop (mkF m 69 #[.val (.ref a1), .val (.ref a2), .val (.ref a3), .val (.ref a4), .val (.int z_a3), .unset, .unset, .unset, .unset] [])) _
    refine XS.aloadN X273.here hx rfl (hb hby d5_69) rfl rfl ?_
    show Steps p.tables e below (T273.setTop (mkF m 70 #[.val (.ref a1), .val (.ref a2), .val (.ref a3), .val (.ref a4), .val (.int z_a3), .unset, .unset, .unset, .unset] [(.ref a1)])) _
    refine st297 _ ?_
    show Steps p.tables e below (T297.setTop (mkF m 73 #[.val (.ref a1), .val (.ref a2), .val (.ref a3), .val (.ref a4), .val (.int z_a3), .unset, .unset, .unset, .unset] [(.ref b159)])) _
    refine XS.iconst X297.here hx rfl (hb hby d5_73) ?_
    show Steps p.tables e below (T297.setTop (mkF m 74 #[.val (.ref a1), .val (.ref a2), .val (.ref a3), .val (.ref a4), .val (.int z_a3), .unset, .unset, .unset, .unset] [(.int (-1 : Int32)), (.ref b159)])) _
    refine st298 _ ?_
    show Steps p.tables e below (T298.setTop (mkF m 77 #[.val (.ref a1), .val (.ref a2), .val (.ref a3), .val (.ref a4), .val (.int z_a3), .unset, .unset, .unset, .unset] [])) _
    refine XS.aloadN X298.here hx rfl (hb hby d5_77) rfl rfl ?_
    show Steps p.tables e below (T298.setTop (mkF m 78 #[.val (.ref a1), .val (.ref a2), .val (.ref a3), .val (.ref a4), .val (.int z_a3), .unset, .unset, .unset, .unset] [(.ref a1)])) _
    refine st322 _ ?_
    show Steps p.tables e below (T322.setTop (mkF m 81 #[.val (.ref a1), .val (.ref a2), .val (.ref a3), .val (.ref a4), .val (.int z_a3), .unset, .unset, .unset, .unset] [(.ref b203)])) _
    refine XS.iconst X322.here hx rfl (hb hby d5_81) ?_
    show Steps p.tables e below (T322.setTop (mkF m 82 #[.val (.ref a1), .val (.ref a2), .val (.ref a3), .val (.ref a4), .val (.int z_a3), .unset, .unset, .unset, .unset] [(.int (-1 : Int32)), (.ref b203)])) _
    refine st323 _ ?_
    show Steps p.tables e below (T323.setTop (mkF m 85 #[.val (.ref a1), .val (.ref a2), .val (.ref a3), .val (.ref a4), .val (.int z_a3), .unset, .unset, .unset, .unset] [])) _
    refine XS.aloadN X323.here hx rfl (hb hby d5_85) rfl rfl ?_
    refine XS.astore X323.here hx rfl (hb hby d5_86) rfl rfl (l' := #[.val (.ref a1), .val (.ref a2), .val (.ref a3), .val (.ref a4), .val (.int z_a3), .val (.ref a4), .unset, .unset, .unset]) rfl ?_
    refine XS.aload X323.here hx rfl (hb hby d5_88) rfl rfl ?_
    show Steps p.tables e below (T323.setTop (mkF m 90 #[.val (.ref a1), .val (.ref a2), .val (.ref a3), .val (.ref a4), .val (.int z_a3), .val (.ref a4), .unset, .unset, .unset] [(.ref a4)])) _
    refine alen X323 hx hZ rfl c337 (g := (mkF m 90 #[.val (.ref a1), .val (.ref a2), .val (.ref a3), .val (.ref a4), .val (.int z_a3), .val (.ref a4), .unset, .unset, .unset] [(.ref a4)])) rfl rfl (hb hby d5_90) ?_
    show Steps p.tables e below (T323.setTop (mkF m 91 #[.val (.ref a1), .val (.ref a2), .val (.ref a3), .val (.ref a4), .val (.int z_a3), .val (.ref a4), .unset, .unset, .unset] [(.int z_a4)])) _
    refine XS.istore X323.here hx rfl (hb hby d5_91) rfl (l' := #[.val (.ref a1), .val (.ref a2), .val (.ref a3), .val (.ref a4), .val (.int z_a3), .val (.ref a4), .val (.int z_a4), .unset, .unset]) rfl ?_
    refine XS.iconst X323.here hx rfl (hb hby d5_93) ?_
    refine XS.istore X323.here hx rfl (hb hby d5_94) rfl (l' := #[.val (.ref a1), .val (.ref a2), .val (.ref a3), .val (.ref a4), .val (.int z_a3), .val (.ref a4), .val (.int z_a4), .val (.int (0 : Int32)), .unset]) rfl ?_
    exact k
  have loop96 : ∀ (k : Nat) (i7 : Int32) (s8 : Slot) (u7 : Int32) (T347 : State) (LT347 : List Loc) (h347 : Heap), One s8 → 0 ≤ i7.toInt ∧ i7.toInt ≤ 3 ∧ 3 - i7.toInt < (k : Int) → Stand p l e ({ frames := 1, cells := 6, slots := 18, locals := 15 } : Room) s m #[(.ref a1), (.ref a2), (.ref a3), (.ref a4)] below meth c T347 LT347 6 18 → T347.heap = h347 → Fr n0 LT347 → n0 ≤ h347.size → Exa Z h347 a1 "com/example/podflow/podflow/simulation/Ballot" → Fld Z h347 a1 "com/example/podflow/podflow/simulation/Ballot" "idleAt" "[I" (.ref a2) → Fld Z h347 a1 "com/example/podflow/podflow/simulation/Ballot" "idleCount" "[I" (.ref a3) → Fld Z h347 a1 "com/example/podflow/podflow/simulation/Ballot" "open" "[Z" (.ref b40) → Fld Z h347 a1 "com/example/podflow/podflow/simulation/Ballot" "served" "[I" (.ref b77) → Fld Z h347 a1 "com/example/podflow/podflow/simulation/Ballot" "servedHome" "[I" (.ref b117) → Fld Z h347 a1 "com/example/podflow/podflow/simulation/Ballot" "ownLeaving" "[I" (.ref b159) → Fld Z h347 a1 "com/example/podflow/podflow/simulation/Ballot" "anyLeaving" "[I" (.ref b203) → Fld Z h347 a1 "com/example/podflow/podflow/simulation/Ballot" "counted" "[Z" (.ref b249) → Fld Z h347 a1 "com/example/podflow/podflow/simulation/Ballot" "unsettled" "I" (.int u7) → IAr Z h347 a2 .int z_a2 c_a2 → IAr Z h347 a3 .int z_a3 c_a3 → IAr Z h347 a4 .boolean z_a4 c_a4 → Exa Z h347 a4 "[Z" → Keep h0 h347 [a1] → IAr Z h347 b40 .boolean z_a4 c_a4 → Exa Z h347 b40 "[Z" → IAr Z h347 b77 .int z_a3 (fun _ => 0) → IAr Z h347 b117 .int z_a3 (fun _ => 0) → IAr Z h347 b159 .int z_a3 (f6_o0 (-1 : Int32) z_a3 (fun _ => 0)) → IAr Z h347 b203 .int z_a3 (f6_o0 (-1 : Int32) z_a3 (fun _ => 0)) → IAr Z h347 b249 .boolean z_a2 (fun _ => 0) → (g5_96 w_unsettled_a1 z_a2 c_a2 z_a3 c_a3 z_a4 c_a4 k i7 u7) = (f5_o2 w_unsettled_a1 z_a2 c_a2 z_a3 c_a3 z_a4 c_a4) → (∀ t, Steps p.tables e below (T347.setTop (mkF m 96 #[.val (.ref a1), .val (.ref a2), .val (.ref a3), .val (.ref a4), .val (.int z_a3), .val (.ref a4), .val (.int z_a4), .val (.int i7), s8] [])) t → Steps p.tables e below (s₁.setTop (entryFrame m #[(.ref a1), (.ref a2), (.ref a3), (.ref a4)] 9)) t) → ∃ s₂ o, Steps p.tables e below (s₁.setTop (entryFrame m #[(.ref a1), (.ref a2), (.ref a3), (.ref a4)] 9)) s₂ ∧ s₂.status = .running ∧ Ended s₂ below o ∧ ∃ v L, o = .returned v ∧ Q5 Z a1 a2 a3 a4 w_unsettled_a1 z_a2 c_a2 z_a3 c_a3 z_a4 c_a4 h0 n0 v s₂.heap L ∧ FrameEnd s o s₂ L ({ frames := 1, cells := 6, slots := 18, locals := 15 } : Room).cells ({ frames := 1, cells := 6, slots := 18, locals := 15 } : Room).slots := by
    intro k
    induction k with
    | zero => intro i7 s8 u7 T347 LT347 h347 hs8 hI X347 e347 N347 c348 c349 c350 c351 c352 c353 c354 c355 c356 c357 c358 c359 c360 c361 c362 c363 c364 c365 c366 c367 c368 c369 c370 hg0 preL; exact absurd hI (by omega)
    | succ k ih =>
      intro i7 s8 u7 T347 LT347 h347 hs8 hI X347 e347 N347 c348 c349 c350 c351 c352 c353 c354 c355 c356 c357 c358 c359 c360 c361 c362 c363 c364 c365 c366 c367 c368 c369 c370 hg0 preL
      have pre2 : ∀ t, Steps p.tables e below (T347.setTop (mkF m 100 #[.val (.ref a1), .val (.ref a2), .val (.ref a3), .val (.ref a4), .val (.int z_a3), .val (.ref a4), .val (.int z_a4), .val (.int i7), s8] [(.int z_a4), (.int i7)])) t → Steps p.tables e below (s₁.setTop (entryFrame m #[(.ref a1), (.ref a2), (.ref a3), (.ref a4)] 9)) t := by
        intro t k
        refine preL t ?_
        show Steps p.tables e below (T347.setTop (mkF m 96 #[.val (.ref a1), .val (.ref a2), .val (.ref a3), .val (.ref a4), .val (.int z_a3), .val (.ref a4), .val (.int z_a4), .val (.int i7), s8] [])) _
        refine XS.iload X347.here hx rfl (hb hby d5_96) rfl ?_
        refine XS.iload X347.here hx rfl (hb hby d5_98) rfl ?_
        exact k
      by_cases hc100 : i7 < z_a4
      · obtain ⟨T371, X371, e371, st371⟩ := getF X347 hx hZ hown (host := "") (Or.inl (hw _ (List.mem_of_getElem? (i := 64) rfl))) Via.refl e347 c358 (g := (mkF m 112 #[.val (.ref a1), .val (.ref a2), .val (.ref a3), .val (.ref a4), .val (.int z_a3), .val (.ref a4), .val (.int z_a4), .val (.int i7), .val (.int (c_a4 (i7).toNatClampNeg))] [(.ref a1), (.ref a1)])) rfl rfl (hb hby d5_112)
        have pre3 : ∀ t, Steps p.tables e below (T371.setTop (mkF m 117 #[.val (.ref a1), .val (.ref a2), .val (.ref a3), .val (.ref a4), .val (.int z_a3), .val (.ref a4), .val (.int z_a4), .val (.int i7), .val (.int (c_a4 (i7).toNatClampNeg))] [(.int (c_a4 (i7).toNatClampNeg)), (.int u7), (.ref a1)])) t → Steps p.tables e below (s₁.setTop (entryFrame m #[(.ref a1), (.ref a2), (.ref a3), (.ref a4)] 9)) t := by
          intro t k
          refine pre2 t ?_
          refine XS.icmpNo X347.here hx rfl (hb hby d5_100) rfl (tlt hc100).2.1 ?_
          refine XS.aload X347.here hx rfl (hb hby d5_103) rfl rfl ?_
          show Steps p.tables e below (T347.setTop (mkF m 105 #[.val (.ref a1), .val (.ref a2), .val (.ref a3), .val (.ref a4), .val (.int z_a3), .val (.ref a4), .val (.int z_a4), .val (.int i7), s8] [(.ref a4)])) _
          refine XS.iload X347.here hx rfl (hb hby d5_105) rfl ?_
          show Steps p.tables e below (T347.setTop (mkF m 107 #[.val (.ref a1), .val (.ref a2), .val (.ref a3), .val (.ref a4), .val (.int z_a3), .val (.ref a4), .val (.int z_a4), .val (.int i7), s8] [(.int i7), (.ref a4)])) _
          refine ldZ X347 hx hZ e347 c361 (j := i7) (own_l2 hI hz4 hc100) (g := (mkF m 107 #[.val (.ref a1), .val (.ref a2), .val (.ref a3), .val (.ref a4), .val (.int z_a3), .val (.ref a4), .val (.int z_a4), .val (.int i7), s8] [(.int i7), (.ref a4)])) rfl rfl (hb hby d5_107) ?_
          show Steps p.tables e below (T347.setTop (mkF m 108 #[.val (.ref a1), .val (.ref a2), .val (.ref a3), .val (.ref a4), .val (.int z_a3), .val (.ref a4), .val (.int z_a4), .val (.int i7), s8] [(.int (c_a4 (i7).toNatClampNeg))])) _
          refine XS.istoreS X347.here hx rfl (hb hby d5_108) rfl (o := s8) rfl hs8 ?_
          refine XS.aloadN X347.here hx rfl (hb hby d5_110) rfl rfl ?_
          refine XS.dup X347.here hx rfl (hb hby d5_111) rfl rfl ?_
          show Steps p.tables e below (T347.setTop (mkF m 112 #[.val (.ref a1), .val (.ref a2), .val (.ref a3), .val (.ref a4), .val (.int z_a3), .val (.ref a4), .val (.int z_a4), .val (.int i7), .val (.int (c_a4 (i7).toNatClampNeg))] [(.ref a1), (.ref a1)])) _
          refine st371 _ ?_
          show Steps p.tables e below (T371.setTop (mkF m 115 #[.val (.ref a1), .val (.ref a2), .val (.ref a3), .val (.ref a4), .val (.int z_a3), .val (.ref a4), .val (.int z_a4), .val (.int i7), .val (.int (c_a4 (i7).toNatClampNeg))] [(.int u7), (.ref a1)])) _
          refine XS.iload X371.here hx rfl (hb hby d5_115) rfl ?_
          exact k
        by_cases hc117 : (c_a4 (i7).toNatClampNeg) = (0 : Int32)
        · obtain ⟨T372, h372, X372, e372, W372, st372⟩ := putF X371 hx hZ hown (host := "") (Or.inl (hw _ (List.mem_of_getElem? (i := 64) rfl))) Via.refl e371 c358 c349 (Or.inl (hw _ (List.mem_of_getElem? (i := 65) rfl))) (hw _ (List.mem_of_getElem? (i := 29) rfl)) (ty := .int) (by decide) rfl rfl (g := (mkF m 126 #[.val (.ref a1), .val (.ref a2), .val (.ref a3), .val (.ref a4), .val (.int z_a3), .val (.ref a4), .val (.int z_a4), .val (.int i7), .val (.int (c_a4 (i7).toNatClampNeg))] [(.int (u7 + (0 : Int32))), (.ref a1)])) rfl rfl (hb hby d5_126)
          have N372 := Fr.snoc X372 N347 g_a1
          have c373 : n0 ≤ h372.size := Nat.le_trans c348 (Keep.of_wr W372).1
          have c374 : Exa Z h372 a1 "com/example/podflow/podflow/simulation/Ballot" := c349.wr W372
          have c375 : Fld Z h372 a1 "com/example/podflow/podflow/simulation/Ballot" "idleAt" "[I" (.ref a2) := c350.other W372 (Or.inr (slot_ne (Or.inr (hw _ (List.mem_of_getElem? (i := 36) rfl))) (Or.inl (hw _ (List.mem_of_getElem? (i := 65) rfl))) (by decide) (t := (.array .int)) (t' := .int) (by decide) (by decide)))
          have c376 : Fld Z h372 a1 "com/example/podflow/podflow/simulation/Ballot" "idleCount" "[I" (.ref a3) := c351.other W372 (Or.inr (slot_ne (Or.inr (hw _ (List.mem_of_getElem? (i := 38) rfl))) (Or.inl (hw _ (List.mem_of_getElem? (i := 65) rfl))) (by decide) (t := (.array .int)) (t' := .int) (by decide) (by decide)))
          have c377 : Fld Z h372 a1 "com/example/podflow/podflow/simulation/Ballot" "open" "[Z" (.ref b40) := c352.other W372 (Or.inr (slot_ne (Or.inr (hw _ (List.mem_of_getElem? (i := 49) rfl))) (Or.inl (hw _ (List.mem_of_getElem? (i := 65) rfl))) (by decide) (t := (.array .boolean)) (t' := .int) (by decide) (by decide)))
          have c378 : Fld Z h372 a1 "com/example/podflow/podflow/simulation/Ballot" "served" "[I" (.ref b77) := c353.other W372 (Or.inr (slot_ne (Or.inr (hw _ (List.mem_of_getElem? (i := 51) rfl))) (Or.inl (hw _ (List.mem_of_getElem? (i := 65) rfl))) (by decide) (t := (.array .int)) (t' := .int) (by decide) (by decide)))
          have c379 : Fld Z h372 a1 "com/example/podflow/podflow/simulation/Ballot" "servedHome" "[I" (.ref b117) := c354.other W372 (Or.inr (slot_ne (Or.inr (hw _ (List.mem_of_getElem? (i := 53) rfl))) (Or.inl (hw _ (List.mem_of_getElem? (i := 65) rfl))) (by decide) (t := (.array .int)) (t' := .int) (by decide) (by decide)))
          have c380 : Fld Z h372 a1 "com/example/podflow/podflow/simulation/Ballot" "ownLeaving" "[I" (.ref b159) := c355.other W372 (Or.inr (slot_ne (Or.inr (hw _ (List.mem_of_getElem? (i := 55) rfl))) (Or.inl (hw _ (List.mem_of_getElem? (i := 65) rfl))) (by decide) (t := (.array .int)) (t' := .int) (by decide) (by decide)))
          have c381 : Fld Z h372 a1 "com/example/podflow/podflow/simulation/Ballot" "anyLeaving" "[I" (.ref b203) := c356.other W372 (Or.inr (slot_ne (Or.inr (hw _ (List.mem_of_getElem? (i := 57) rfl))) (Or.inl (hw _ (List.mem_of_getElem? (i := 65) rfl))) (by decide) (t := (.array .int)) (t' := .int) (by decide) (by decide)))
          have c382 : Fld Z h372 a1 "com/example/podflow/podflow/simulation/Ballot" "counted" "[Z" (.ref b249) := c357.other W372 (Or.inr (slot_ne (Or.inr (hw _ (List.mem_of_getElem? (i := 59) rfl))) (Or.inl (hw _ (List.mem_of_getElem? (i := 65) rfl))) (by decide) (t := (.array .boolean)) (t' := .int) (by decide) (by decide)))
          have c383 : Fld Z h372 a1 "com/example/podflow/podflow/simulation/Ballot" "unsettled" "I" (.int (u7 + (0 : Int32))) := c358.same W372
          have c384 : IAr Z h372 a2 .int z_a2 c_a2 := c359.other W372 (Ne.symm ne_a1_a2)
          have c385 : IAr Z h372 a3 .int z_a3 c_a3 := c360.other W372 (Ne.symm ne_a1_a3)
          have c386 : IAr Z h372 a4 .boolean z_a4 c_a4 := c361.other W372 (Ne.symm ne_a1_a4)
          have c387 : Exa Z h372 a4 "[Z" := c362.wr W372
          have c388 : Keep h0 h372 [a1] := c363.wr W372 (Or.inl (List.mem_of_getElem? (i := 0) rfl))
          have c389 : IAr Z h372 b40 .boolean z_a4 c_a4 := c364.other W372 (Ne.symm ne_a1_b40)
          have c390 : Exa Z h372 b40 "[Z" := c365.wr W372
          have c391 : IAr Z h372 b77 .int z_a3 (fun _ => 0) := c366.other W372 (Ne.symm ne_a1_b77)
          have c392 : IAr Z h372 b117 .int z_a3 (fun _ => 0) := c367.other W372 (Ne.symm ne_a1_b117)
          have c393 : IAr Z h372 b159 .int z_a3 (f6_o0 (-1 : Int32) z_a3 (fun _ => 0)) := c368.other W372 (Ne.symm ne_a1_b159)
          have c394 : IAr Z h372 b203 .int z_a3 (f6_o0 (-1 : Int32) z_a3 (fun _ => 0)) := c369.other W372 (Ne.symm ne_a1_b203)
          have c395 : IAr Z h372 b249 .boolean z_a2 (fun _ => 0) := c370.other W372 (Ne.symm ne_a1_b249)
          have eq4 : (f5_o2 w_unsettled_a1 z_a2 c_a2 z_a3 c_a3 z_a4 c_a4) = (g5_96 w_unsettled_a1 z_a2 c_a2 z_a3 c_a3 z_a4 c_a4 k (i7 + (1 : Int32)) (u7 + (0 : Int32))) := by rw [← hg0]; simp only [g5_96, if_pos hc100, if_pos hc117]
          have pre5 : ∀ t, Steps p.tables e below (T372.setTop (mkF m 96 #[.val (.ref a1), .val (.ref a2), .val (.ref a3), .val (.ref a4), .val (.int z_a3), .val (.ref a4), .val (.int z_a4), .val (.int (i7 + (1 : Int32))), .val (.int (c_a4 (i7).toNatClampNeg))] [])) t → Steps p.tables e below (s₁.setTop (entryFrame m #[(.ref a1), (.ref a2), (.ref a3), (.ref a4)] 9)) t := by
            intro t k
            refine pre3 t ?_
            refine XS.ifYes X371.here hx rfl (pc0 := 117) (pc' := 124) rfl (hb hby d5_117) rfl ((if0 _ _).trans (teq hc117).1) (by decide) (by decide) ?_
            refine XS.iconst X371.here hx rfl (hb hby d5_124) ?_
            refine XS.iadd X371.here hx rfl (hb hby d5_125) rfl ?_
            show Steps p.tables e below (T371.setTop (mkF m 126 #[.val (.ref a1), .val (.ref a2), .val (.ref a3), .val (.ref a4), .val (.int z_a3), .val (.ref a4), .val (.int z_a4), .val (.int i7), .val (.int (c_a4 (i7).toNatClampNeg))] [(.int (u7 + (0 : Int32))), (.ref a1)])) _
            refine st372 _ ?_
            show Steps p.tables e below (T372.setTop (mkF m 129 #[.val (.ref a1), .val (.ref a2), .val (.ref a3), .val (.ref a4), .val (.int z_a3), .val (.ref a4), .val (.int z_a4), .val (.int i7), .val (.int (c_a4 (i7).toNatClampNeg))] [])) _
            refine XS.iinc X372.here hx rfl (hb hby d5_129) rfl (l' := #[.val (.ref a1), .val (.ref a2), .val (.ref a3), .val (.ref a4), .val (.int z_a3), .val (.ref a4), .val (.int z_a4), .val (.int (i7 + (1 : Int32))), .val (.int (c_a4 (i7).toNatClampNeg))]) rfl ?_
            refine XS.goto X372.here hx rfl (pc0 := 132) (pc' := 96) rfl (hb hby d5_132) (by decide) (by decide) ?_
            exact k
          exact ih (i7 + (1 : Int32)) (.val (.int (c_a4 (i7).toNatClampNeg))) (u7 + (0 : Int32)) T372 _ h372 (One.val rfl) (own_l3 hI hz4 hc100) X372 e372 N372 c373 c374 c375 c376 c377 c378 c379 c380 c381 c382 c383 c384 c385 c386 c387 c388 c389 c390 c391 c392 c393 c394 c395  (eq4).symm pre5
        · obtain ⟨T396, h396, X396, e396, W396, st396⟩ := putF X371 hx hZ hown (host := "") (Or.inl (hw _ (List.mem_of_getElem? (i := 64) rfl))) Via.refl e371 c358 c349 (Or.inl (hw _ (List.mem_of_getElem? (i := 65) rfl))) (hw _ (List.mem_of_getElem? (i := 29) rfl)) (ty := .int) (by decide) rfl rfl (g := (mkF m 126 #[.val (.ref a1), .val (.ref a2), .val (.ref a3), .val (.ref a4), .val (.int z_a3), .val (.ref a4), .val (.int z_a4), .val (.int i7), .val (.int (c_a4 (i7).toNatClampNeg))] [(.int (u7 + (1 : Int32))), (.ref a1)])) rfl rfl (hb hby d5_126)
          have N396 := Fr.snoc X396 N347 g_a1
          have c397 : n0 ≤ h396.size := Nat.le_trans c348 (Keep.of_wr W396).1
          have c398 : Exa Z h396 a1 "com/example/podflow/podflow/simulation/Ballot" := c349.wr W396
          have c399 : Fld Z h396 a1 "com/example/podflow/podflow/simulation/Ballot" "idleAt" "[I" (.ref a2) := c350.other W396 (Or.inr (slot_ne (Or.inr (hw _ (List.mem_of_getElem? (i := 36) rfl))) (Or.inl (hw _ (List.mem_of_getElem? (i := 65) rfl))) (by decide) (t := (.array .int)) (t' := .int) (by decide) (by decide)))
          have c400 : Fld Z h396 a1 "com/example/podflow/podflow/simulation/Ballot" "idleCount" "[I" (.ref a3) := c351.other W396 (Or.inr (slot_ne (Or.inr (hw _ (List.mem_of_getElem? (i := 38) rfl))) (Or.inl (hw _ (List.mem_of_getElem? (i := 65) rfl))) (by decide) (t := (.array .int)) (t' := .int) (by decide) (by decide)))
          have c401 : Fld Z h396 a1 "com/example/podflow/podflow/simulation/Ballot" "open" "[Z" (.ref b40) := c352.other W396 (Or.inr (slot_ne (Or.inr (hw _ (List.mem_of_getElem? (i := 49) rfl))) (Or.inl (hw _ (List.mem_of_getElem? (i := 65) rfl))) (by decide) (t := (.array .boolean)) (t' := .int) (by decide) (by decide)))
          have c402 : Fld Z h396 a1 "com/example/podflow/podflow/simulation/Ballot" "served" "[I" (.ref b77) := c353.other W396 (Or.inr (slot_ne (Or.inr (hw _ (List.mem_of_getElem? (i := 51) rfl))) (Or.inl (hw _ (List.mem_of_getElem? (i := 65) rfl))) (by decide) (t := (.array .int)) (t' := .int) (by decide) (by decide)))
          have c403 : Fld Z h396 a1 "com/example/podflow/podflow/simulation/Ballot" "servedHome" "[I" (.ref b117) := c354.other W396 (Or.inr (slot_ne (Or.inr (hw _ (List.mem_of_getElem? (i := 53) rfl))) (Or.inl (hw _ (List.mem_of_getElem? (i := 65) rfl))) (by decide) (t := (.array .int)) (t' := .int) (by decide) (by decide)))
          have c404 : Fld Z h396 a1 "com/example/podflow/podflow/simulation/Ballot" "ownLeaving" "[I" (.ref b159) := c355.other W396 (Or.inr (slot_ne (Or.inr (hw _ (List.mem_of_getElem? (i := 55) rfl))) (Or.inl (hw _ (List.mem_of_getElem? (i := 65) rfl))) (by decide) (t := (.array .int)) (t' := .int) (by decide) (by decide)))
          have c405 : Fld Z h396 a1 "com/example/podflow/podflow/simulation/Ballot" "anyLeaving" "[I" (.ref b203) := c356.other W396 (Or.inr (slot_ne (Or.inr (hw _ (List.mem_of_getElem? (i := 57) rfl))) (Or.inl (hw _ (List.mem_of_getElem? (i := 65) rfl))) (by decide) (t := (.array .int)) (t' := .int) (by decide) (by decide)))
          have c406 : Fld Z h396 a1 "com/example/podflow/podflow/simulation/Ballot" "counted" "[Z" (.ref b249) := c357.other W396 (Or.inr (slot_ne (Or.inr (hw _ (List.mem_of_getElem? (i := 59) rfl))) (Or.inl (hw _ (List.mem_of_getElem? (i := 65) rfl))) (by decide) (t := (.array .boolean)) (t' := .int) (by decide) (by decide)))
          have c407 : Fld Z h396 a1 "com/example/podflow/podflow/simulation/Ballot" "unsettled" "I" (.int (u7 + (1 : Int32))) := c358.same W396
          have c408 : IAr Z h396 a2 .int z_a2 c_a2 := c359.other W396 (Ne.symm ne_a1_a2)
          have c409 : IAr Z h396 a3 .int z_a3 c_a3 := c360.other W396 (Ne.symm ne_a1_a3)
          have c410 : IAr Z h396 a4 .boolean z_a4 c_a4 := c361.other W396 (Ne.symm ne_a1_a4)
          have c411 : Exa Z h396 a4 "[Z" := c362.wr W396
          have c412 : Keep h0 h396 [a1] := c363.wr W396 (Or.inl (List.mem_of_getElem? (i := 0) rfl))
          have c413 : IAr Z h396 b40 .boolean z_a4 c_a4 := c364.other W396 (Ne.symm ne_a1_b40)
          have c414 : Exa Z h396 b40 "[Z" := c365.wr W396
          have c415 : IAr Z h396 b77 .int z_a3 (fun _ => 0) := c366.other W396 (Ne.symm ne_a1_b77)
          have c416 : IAr Z h396 b117 .int z_a3 (fun _ => 0) := c367.other W396 (Ne.symm ne_a1_b117)
          have c417 : IAr Z h396 b159 .int z_a3 (f6_o0 (-1 : Int32) z_a3 (fun _ => 0)) := c368.other W396 (Ne.symm ne_a1_b159)
          have c418 : IAr Z h396 b203 .int z_a3 (f6_o0 (-1 : Int32) z_a3 (fun _ => 0)) := c369.other W396 (Ne.symm ne_a1_b203)
          have c419 : IAr Z h396 b249 .boolean z_a2 (fun _ => 0) := c370.other W396 (Ne.symm ne_a1_b249)
          have eq6 : (f5_o2 w_unsettled_a1 z_a2 c_a2 z_a3 c_a3 z_a4 c_a4) = (g5_96 w_unsettled_a1 z_a2 c_a2 z_a3 c_a3 z_a4 c_a4 k (i7 + (1 : Int32)) (u7 + (1 : Int32))) := by rw [← hg0]; simp only [g5_96, if_pos hc100, if_neg hc117]
          have pre7 : ∀ t, Steps p.tables e below (T396.setTop (mkF m 96 #[.val (.ref a1), .val (.ref a2), .val (.ref a3), .val (.ref a4), .val (.int z_a3), .val (.ref a4), .val (.int z_a4), .val (.int (i7 + (1 : Int32))), .val (.int (c_a4 (i7).toNatClampNeg))] [])) t → Steps p.tables e below (s₁.setTop (entryFrame m #[(.ref a1), (.ref a2), (.ref a3), (.ref a4)] 9)) t := by
            intro t k
            refine pre3 t ?_
            refine XS.ifNo X371.here hx rfl (hb hby d5_117) rfl ((if0 _ _).trans (feq hc117).1) ?_
            refine XS.iconst X371.here hx rfl (hb hby d5_120) ?_
            show Steps p.tables e below (T371.setTop (mkF m 121 #[.val (.ref a1), .val (.ref a2), .val (.ref a3), .val (.ref a4), .val (.int z_a3), .val (.ref a4), .val (.int z_a4), .val (.int i7), .val (.int (c_a4 (i7).toNatClampNeg))] [(.int (1 : Int32)), (.int u7), (.ref a1)])) _
            refine XS.goto X371.here hx rfl (pc0 := 121) (pc' := 125) rfl (hb hby d5_121) (by decide) (by decide) ?_
            refine XS.iadd X371.here hx rfl (hb hby d5_125) rfl ?_
            show Steps p.tables e below (T371.setTop (mkF m 126 #[.val (.ref a1), .val (.ref a2), .val (.ref a3), .val (.ref a4), .val (.int z_a3), .val (.ref a4), .val (.int z_a4), .val (.int i7), .val (.int (c_a4 (i7).toNatClampNeg))] [(.int (u7 + (1 : Int32))), (.ref a1)])) _
            refine st396 _ ?_
            show Steps p.tables e below (T396.setTop (mkF m 129 #[.val (.ref a1), .val (.ref a2), .val (.ref a3), .val (.ref a4), .val (.int z_a3), .val (.ref a4), .val (.int z_a4), .val (.int i7), .val (.int (c_a4 (i7).toNatClampNeg))] [])) _
            refine XS.iinc X396.here hx rfl (hb hby d5_129) rfl (l' := #[.val (.ref a1), .val (.ref a2), .val (.ref a3), .val (.ref a4), .val (.int z_a3), .val (.ref a4), .val (.int z_a4), .val (.int (i7 + (1 : Int32))), .val (.int (c_a4 (i7).toNatClampNeg))]) rfl ?_
            refine XS.goto X396.here hx rfl (pc0 := 132) (pc' := 96) rfl (hb hby d5_132) (by decide) (by decide) ?_
            exact k
          exact ih (i7 + (1 : Int32)) (.val (.int (c_a4 (i7).toNatClampNeg))) (u7 + (1 : Int32)) T396 _ h396 (One.val rfl) (own_l3 hI hz4 hc100) X396 e396 N396 c397 c398 c399 c400 c401 c402 c403 c404 c405 c406 c407 c408 c409 c410 c411 c412 c413 c414 c415 c416 c417 c418 c419  (eq6).symm pre7
      · have eq8 : (f5_o2 w_unsettled_a1 z_a2 c_a2 z_a3 c_a3 z_a4 c_a4) = u7 := by rw [← hg0]; simp only [g5_96, if_neg hc100]
        have eq9 : (f5_x0n w_unsettled_a1 z_a2 c_a2 z_a3 c_a3 z_a4 c_a4) = z_a4 := rfl
        have eq10 : (f5_x0c w_unsettled_a1 z_a2 c_a2 z_a3 c_a3 z_a4 c_a4) = c_a4 := rfl
        have eq11 : (f5_x1n w_unsettled_a1 z_a2 c_a2 z_a3 c_a3 z_a4 c_a4) = z_a3 := rfl
        have eq12 : (f5_x1c w_unsettled_a1 z_a2 c_a2 z_a3 c_a3 z_a4 c_a4) = (fun _ => 0) := rfl
        have eq13 : (f5_x2n w_unsettled_a1 z_a2 c_a2 z_a3 c_a3 z_a4 c_a4) = z_a3 := rfl
        have eq14 : (f5_x2c w_unsettled_a1 z_a2 c_a2 z_a3 c_a3 z_a4 c_a4) = (fun _ => 0) := rfl
        have eq15 : (f5_x3n w_unsettled_a1 z_a2 c_a2 z_a3 c_a3 z_a4 c_a4) = z_a3 := rfl
        have eq16 : (f5_x3c w_unsettled_a1 z_a2 c_a2 z_a3 c_a3 z_a4 c_a4) = (f6_o0 (-1 : Int32) z_a3 (fun _ => 0)) := rfl
        have eq17 : (f5_x4n w_unsettled_a1 z_a2 c_a2 z_a3 c_a3 z_a4 c_a4) = z_a3 := rfl
        have eq18 : (f5_x4c w_unsettled_a1 z_a2 c_a2 z_a3 c_a3 z_a4 c_a4) = (f6_o0 (-1 : Int32) z_a3 (fun _ => 0)) := rfl
        have eq19 : (f5_x5n w_unsettled_a1 z_a2 c_a2 z_a3 c_a3 z_a4 c_a4) = z_a2 := rfl
        have eq20 : (f5_x5c w_unsettled_a1 z_a2 c_a2 z_a3 c_a3 z_a4 c_a4) = (fun _ => 0) := rfl
        obtain ⟨fs, hr, hrun, hended, hW, hsame⟩ := X347.leave (v := none) (fun _ => rfl)
        refine ⟨_, _, pre2 _ ?_, hrun, hended, _, _, rfl, ?_, ⟨_, rfl⟩, hW, hsame.mono (by decide) (by decide)⟩
        · show Steps p.tables e below (T347.setTop (mkF m 100 #[.val (.ref a1), .val (.ref a2), .val (.ref a3), .val (.ref a4), .val (.int z_a3), .val (.ref a4), .val (.int z_a4), .val (.int i7), s8] [(.int z_a4), (.int i7)])) _
          refine XS.icmpYes X347.here hx rfl (pc0 := 100) (pc' := 135) rfl (hb hby d5_100) rfl (flt hc100).2.1 (by decide) (by decide) ?_
          show Steps p.tables e below (T347.setTop (mkF m 135 #[.val (.ref a1), .val (.ref a2), .val (.ref a3), .val (.ref a4), .val (.int z_a3), .val (.ref a4), .val (.int z_a4), .val (.int i7), s8] [])) _
          exact X347.returnOut hx Bd.returns (hb hby d5_135) hr
        · show Q5 Z a1 a2 a3 a4 w_unsettled_a1 z_a2 c_a2 z_a3 c_a3 z_a4 c_a4 h0 n0 _ T347.heap _
          rw [e347]
          exact ⟨b40, b77, b117, b159, b203, b249, rfl, N347, c363, c350, c351, (by rw [eq8]; exact c358), sz_b40, (by rw [eq9, eq10]; exact c364), c352, sz_b77, (by rw [eq11, eq12]; exact c366), c353, sz_b117, (by rw [eq13, eq14]; exact c367), c354, sz_b159, (by rw [eq15, eq16]; exact c368), c355, sz_b203, (by rw [eq17, eq18]; exact c369), c356, sz_b249, (by rw [eq19, eq20]; exact c370), c357, ne_b40_b77, ne_b40_b117, ne_b40_b159, ne_b40_b203, ne_b40_b249, ne_b77_b117, ne_b77_b159, ne_b77_b203, ne_b77_b249, ne_b117_b159, ne_b117_b203, ne_b117_b249, ne_b159_b203, ne_b159_b249, ne_b203_b249⟩
  exact loop96 4 (0 : Int32) .unset w_unsettled_a1 T323 _ T323.heap (One.u) (own_l0) X323 rfl N323 c324 c325 c326 c327 c328 c329 c330 c331 c332 c333 c334 c335 c336 c337 c338 c339 c340 c341 c342 c343 c344 c345 c346 (rfl) pre1
theorem d12_0 : decode prog_56_method_5_code 0 = .ok (.aload_n 0, 1) := by decide +kernel
theorem d12_1 : decode prog_56_method_5_code 1 = .ok (.getfield 28, 3) := by decide +kernel
theorem d12_4 : decode prog_56_method_5_code 4 = .ok (.iload_n 1, 1) := by decide +kernel
theorem d12_5 : decode prog_56_method_5_code 5 = .ok (.iaload, 1) := by decide +kernel
theorem d12_6 : decode prog_56_method_5_code 6 = .ok (.aload_n 0, 1) := by decide +kernel
theorem d12_7 : decode prog_56_method_5_code 7 = .ok (.getfield 13, 3) := by decide +kernel
theorem d12_10 : decode prog_56_method_5_code 10 = .ok (.iload_n 1, 1) := by decide +kernel
theorem d12_11 : decode prog_56_method_5_code 11 = .ok (.iaload, 1) := by decide +kernel
theorem d12_12 : decode prog_56_method_5_code 12 = .ok (.if_icmp .ne 7, 3) := by decide +kernel
theorem d12_15 : decode prog_56_method_5_code 15 = .ok (.iconst 1, 1) := by decide +kernel
theorem d12_16 : decode prog_56_method_5_code 16 = .ok (.goto 4, 3) := by decide +kernel
theorem d12_19 : decode prog_56_method_5_code 19 = .ok (.iconst 0, 1) := by decide +kernel
theorem d12_20 : decode prog_56_method_5_code 20 = .ok (.istore_n 2, 1) := by decide +kernel
theorem d12_21 : decode prog_56_method_5_code 21 = .ok (.aload_n 0, 1) := by decide +kernel
theorem d12_22 : decode prog_56_method_5_code 22 = .ok (.getfield 31, 3) := by decide +kernel
theorem d12_25 : decode prog_56_method_5_code 25 = .ok (.iload_n 1, 1) := by decide +kernel
theorem d12_26 : decode prog_56_method_5_code 26 = .ok (.iaload, 1) := by decide +kernel
theorem d12_27 : decode prog_56_method_5_code 27 = .ok (.ifCond .lt 22, 3) := by decide +kernel
theorem d12_30 : decode prog_56_method_5_code 30 = .ok (.aload_n 0, 1) := by decide +kernel
theorem d12_31 : decode prog_56_method_5_code 31 = .ok (.getfield 25, 3) := by decide +kernel
theorem d12_34 : decode prog_56_method_5_code 34 = .ok (.iload_n 1, 1) := by decide +kernel
theorem d12_35 : decode prog_56_method_5_code 35 = .ok (.iaload, 1) := by decide +kernel
theorem d12_36 : decode prog_56_method_5_code 36 = .ok (.aload_n 0, 1) := by decide +kernel
theorem d12_37 : decode prog_56_method_5_code 37 = .ok (.getfield 28, 3) := by decide +kernel
theorem d12_40 : decode prog_56_method_5_code 40 = .ok (.iload_n 1, 1) := by decide +kernel
theorem d12_41 : decode prog_56_method_5_code 41 = .ok (.iaload, 1) := by decide +kernel
theorem d12_42 : decode prog_56_method_5_code 42 = .ok (.if_icmp .le 7, 3) := by decide +kernel
theorem d12_45 : decode prog_56_method_5_code 45 = .ok (.iconst 1, 1) := by decide +kernel
theorem d12_46 : decode prog_56_method_5_code 46 = .ok (.goto 4, 3) := by decide +kernel
theorem d12_49 : decode prog_56_method_5_code 49 = .ok (.iconst 0, 1) := by decide +kernel
theorem d12_50 : decode prog_56_method_5_code 50 = .ok (.istore_n 3, 1) := by decide +kernel
theorem d12_51 : decode prog_56_method_5_code 51 = .ok (.aload_n 0, 1) := by decide +kernel
theorem d12_52 : decode prog_56_method_5_code 52 = .ok (.getfield 22, 3) := by decide +kernel
theorem d12_55 : decode prog_56_method_5_code 55 = .ok (.iload_n 1, 1) := by decide +kernel
theorem d12_56 : decode prog_56_method_5_code 56 = .ok (.baload, 1) := by decide +kernel
theorem d12_57 : decode prog_56_method_5_code 57 = .ok (.ifCond .eq 28, 3) := by decide +kernel
theorem d12_60 : decode prog_56_method_5_code 60 = .ok (.iload_n 2, 1) := by decide +kernel
theorem d12_61 : decode prog_56_method_5_code 61 = .ok (.ifCond .ne 7, 3) := by decide +kernel
theorem d12_64 : decode prog_56_method_5_code 64 = .ok (.iload_n 3, 1) := by decide +kernel
theorem d12_65 : decode prog_56_method_5_code 65 = .ok (.ifCond .eq 20, 3) := by decide +kernel
theorem d12_68 : decode prog_56_method_5_code 68 = .ok (.aload_n 0, 1) := by decide +kernel
theorem d12_69 : decode prog_56_method_5_code 69 = .ok (.getfield 22, 3) := by decide +kernel
theorem d12_72 : decode prog_56_method_5_code 72 = .ok (.iload_n 1, 1) := by decide +kernel
theorem d12_73 : decode prog_56_method_5_code 73 = .ok (.iconst 0, 1) := by decide +kernel
theorem d12_74 : decode prog_56_method_5_code 74 = .ok (.bastore, 1) := by decide +kernel
theorem d12_75 : decode prog_56_method_5_code 75 = .ok (.aload_n 0, 1) := by decide +kernel
theorem d12_76 : decode prog_56_method_5_code 76 = .ok (.dup, 1) := by decide +kernel
theorem d12_77 : decode prog_56_method_5_code 77 = .ok (.getfield 46, 3) := by decide +kernel
theorem d12_80 : decode prog_56_method_5_code 80 = .ok (.iconst 1, 1) := by decide +kernel
theorem d12_81 : decode prog_56_method_5_code 81 = .ok (.isub, 1) := by decide +kernel
theorem d12_82 : decode prog_56_method_5_code 82 = .ok (.putfield 46, 3) := by decide +kernel
theorem d12_85 : decode prog_56_method_5_code 85 = .ok (.return_, 1) := by decide +kernel
theorem ef_12 (m : MethodId) (x0 : Addr) (x1 : Int32) : entryFrame m #[(.ref x0), (.int x1)] 4 = mkF m 0 #[.val (.ref x0), .val (.int x1), .unset, .unset] [] := by first | (simp [entryFrame, mkF, argsToLocals, Value.category]; done) | rfl
def f12_s0_20 (p2 : Int32) (c_w_sh : Nat → Int32) (c_w_ic : Nat → Int32) : Int32 := (if (c_w_sh (p2).toNatClampNeg) = (c_w_ic (p2).toNatClampNeg) then (1 : Int32) else (0 : Int32))
def f12_s0_50 (p2 : Int32) (c_w_sh : Nat → Int32) (c_w_ol : Nat → Int32) (c_w_se : Nat → Int32) : Int32 := (if (c_w_ol (p2).toNatClampNeg) < (0 : Int32) then (0 : Int32) else (if (c_w_sh (p2).toNatClampNeg) < (c_w_se (p2).toNatClampNeg) then (1 : Int32) else (0 : Int32)))
def f12_v74 (p2 : Int32) (c_w_op : Nat → Int32) : Nat → Int32 := (ownU c_w_op (p2).toNatClampNeg (nar .boolean (0 : Int32)))
def f12_o8 (p2 : Int32) (w_unsettled_a1 : Int32) (z_w_sh : Int32) (c_w_sh : Nat → Int32) (z_w_ic : Int32) (c_w_ic : Nat → Int32) (z_w_ol : Int32) (c_w_ol : Nat → Int32) (z_w_se : Int32) (c_w_se : Nat → Int32) (z_w_op : Int32) (c_w_op : Nat → Int32) : Int32 := (if (c_w_op (p2).toNatClampNeg) = (0 : Int32) then w_unsettled_a1 else (if (f12_s0_20 p2 c_w_sh c_w_ic) = (0 : Int32) then (if (f12_s0_50 p2 c_w_sh c_w_ol c_w_se) = (0 : Int32) then w_unsettled_a1 else (w_unsettled_a1 - (1 : Int32))) else (w_unsettled_a1 - (1 : Int32))))
def f12_o9 (p2 : Int32) (w_unsettled_a1 : Int32) (z_w_sh : Int32) (c_w_sh : Nat → Int32) (z_w_ic : Int32) (c_w_ic : Nat → Int32) (z_w_ol : Int32) (c_w_ol : Nat → Int32) (z_w_se : Int32) (c_w_se : Nat → Int32) (z_w_op : Int32) (c_w_op : Nat → Int32) : Nat → Int32 := (if (c_w_op (p2).toNatClampNeg) = (0 : Int32) then c_w_op else (if (f12_s0_20 p2 c_w_sh c_w_ic) = (0 : Int32) then (if (f12_s0_50 p2 c_w_sh c_w_ol c_w_se) = (0 : Int32) then c_w_op else (f12_v74 p2 c_w_op)) else (f12_v74 p2 c_w_op)))
def Q12 (Z : State) (a1 : Addr) (p2 : Int32) (w_ia : Addr) (w_ic : Addr) (w_op : Addr) (w_se : Addr) (w_sh : Addr) (w_ol : Addr) (w_al : Addr) (w_co : Addr) (w_unsettled_a1 : Int32) (z_w_sh : Int32) (c_w_sh : Nat → Int32) (z_w_ic : Int32) (c_w_ic : Nat → Int32) (z_w_ol : Int32) (c_w_ol : Nat → Int32) (z_w_se : Int32) (c_w_se : Nat → Int32) (z_w_op : Int32) (c_w_op : Nat → Int32) (h0 : Heap) (n0 : Nat) (v : Option Value) (h : Heap) (L : List Loc) : Prop := v = none ∧ Fr n0 L ∧ Keep h0 h [a1, w_op] ∧ Fld Z h a1 "com/example/podflow/podflow/simulation/Ballot" "idleAt" "[I" (.ref w_ia) ∧ Fld Z h a1 "com/example/podflow/podflow/simulation/Ballot" "idleCount" "[I" (.ref w_ic) ∧ Fld Z h a1 "com/example/podflow/podflow/simulation/Ballot" "open" "[Z" (.ref w_op) ∧ Fld Z h a1 "com/example/podflow/podflow/simulation/Ballot" "served" "[I" (.ref w_se) ∧ Fld Z h a1 "com/example/podflow/podflow/simulation/Ballot" "servedHome" "[I" (.ref w_sh) ∧ Fld Z h a1 "com/example/podflow/podflow/simulation/Ballot" "ownLeaving" "[I" (.ref w_ol) ∧ Fld Z h a1 "com/example/podflow/podflow/simulation/Ballot" "anyLeaving" "[I" (.ref w_al) ∧ Fld Z h a1 "com/example/podflow/podflow/simulation/Ballot" "counted" "[Z" (.ref w_co) ∧ Fld Z h a1 "com/example/podflow/podflow/simulation/Ballot" "unsettled" "I" (.int (f12_o8 p2 w_unsettled_a1 z_w_sh c_w_sh z_w_ic c_w_ic z_w_ol c_w_ol z_w_se c_w_se z_w_op c_w_op)) ∧ IAr Z h w_op .boolean z_w_op (f12_o9 p2 w_unsettled_a1 z_w_sh c_w_sh z_w_ic c_w_ic z_w_ol c_w_ol z_w_se c_w_se z_w_op c_w_op)
set_option maxRecDepth 65536 in
set_option maxHeartbeats 40000000 in
theorem rm12 (l : Launch) (Z : State) (a0 : Array Value) (hw : ∀ d ∈ tables_1, d.before a0 Z = true) (ws : List Jvm.Cond) (a1 : Addr) (p2 : Int32) (w_ia : Addr) (w_ic : Addr) (w_op : Addr) (w_se : Addr) (w_sh : Addr) (w_ol : Addr) (w_al : Addr) (w_co : Addr) (w_unsettled_a1 : Int32) (z_w_sh : Int32) (c_w_sh : Nat → Int32) (z_w_ic : Int32) (c_w_ic : Nat → Int32) (z_w_ol : Int32) (c_w_ol : Nat → Int32) (z_w_se : Int32) (c_w_se : Nat → Int32) (z_w_op : Int32) (c_w_op : Nat → Int32) (h0 : Heap) (n0 : Nat) (Z0 : n0 ≤ h0.size) (E_a1 : Exa Z h0 a1 "com/example/podflow/podflow/simulation/Ballot") (g_a1 : n0 ≤ a1) (F_idleAt_a1 : Fld Z h0 a1 "com/example/podflow/podflow/simulation/Ballot" "idleAt" "[I" (.ref w_ia)) (F_idleCount_a1 : Fld Z h0 a1 "com/example/podflow/podflow/simulation/Ballot" "idleCount" "[I" (.ref w_ic)) (F_open_a1 : Fld Z h0 a1 "com/example/podflow/podflow/simulation/Ballot" "open" "[Z" (.ref w_op)) (F_served_a1 : Fld Z h0 a1 "com/example/podflow/podflow/simulation/Ballot" "served" "[I" (.ref w_se)) (F_servedHome_a1 : Fld Z h0 a1 "com/example/podflow/podflow/simulation/Ballot" "servedHome" "[I" (.ref w_sh)) (F_ownLeaving_a1 : Fld Z h0 a1 "com/example/podflow/podflow/simulation/Ballot" "ownLeaving" "[I" (.ref w_ol)) (F_anyLeaving_a1 : Fld Z h0 a1 "com/example/podflow/podflow/simulation/Ballot" "anyLeaving" "[I" (.ref w_al)) (F_counted_a1 : Fld Z h0 a1 "com/example/podflow/podflow/simulation/Ballot" "counted" "[Z" (.ref w_co)) (F_unsettled_a1 : Fld Z h0 a1 "com/example/podflow/podflow/simulation/Ballot" "unsettled" "I" (.int w_unsettled_a1)) (V_w_sh : IAr Z h0 w_sh .int z_w_sh c_w_sh) (V_w_ic : IAr Z h0 w_ic .int z_w_ic c_w_ic) (V_w_ol : IAr Z h0 w_ol .int z_w_ol c_w_ol) (V_w_se : IAr Z h0 w_se .int z_w_se c_w_se) (V_w_op : IAr Z h0 w_op .boolean z_w_op c_w_op) (g_w_op : n0 ≤ w_op) (ne_a1_w_op : a1 ≠ w_op) (hp : 0 ≤ p2.toInt ∧ p2.toInt < 3) (hl : z_w_sh = 3 ∧ z_w_ic = 3 ∧ z_w_ol = 3 ∧ z_w_se = 3 ∧ z_w_op = 3) :
    MetFree l (⟨"com/example/podflow/podflow/simulation/Ballot", "settle", "(I)V"⟩ : MethodName) (head1 (Jvm.Cond.code (⟨"com/example/podflow/podflow/simulation/Ballot", "settle", "(I)V"⟩ : MethodName) prog_56_method_5_code 4 none :: ws) ({ frames := 0, cells := 0, slots := 0, locals := 0 } : Room)) (fun a U => a = #[(.ref a1), (.int p2)] ∧ Z.Warmed39 U.vm ∧ U.heap = h0) (fun _ _ _ _ _ => True) (fun _ U o U' => ∃ v L, o = .returned v ∧ Q12 Z a1 p2 w_ia w_ic w_op w_se w_sh w_ol w_al w_co w_unsettled_a1 z_w_sh c_w_sh z_w_ic c_w_ic z_w_ol c_w_ol z_w_se c_w_se z_w_op c_w_op h0 n0 v U'.heap L ∧ FrameEnd U o U' L ({ frames := 0, cells := 0, slots := 0, locals := 0 } : Room).cells ({ frames := 0, cells := 0, slots := 0, locals := 0 } : Room).slots) := by
  refine MetFree.of_bodySF (plainFor_of_name pn_4) hisR ?_
  intro p e s m args below meth c s₁ Bd hml0 hP hK
  obtain ⟨rfl, hZ, hh⟩ := hP
  have hx := Bd.exec
  have hby := Bd.bytes
  have hml : c.maxLocals = 4 := hml0
  have hown : s.vm.findClass "com/example/podflow/podflow/simulation/Ballot" = some m.cls := findClass_of_methodNamed Bd.named
  have hnm := (name_of_methodNamed Bd.named Bd.method).1
  have X0 : Stand p l e ({ frames := 0, cells := 0, slots := 0, locals := 0 } : Room) s m #[(.ref a1), (.int p2)] below meth c s₁ [] 0 0 := Stand.of_body Bd
  have e0 : s₁.heap = h0 := by rw [← hh, Bd.state]; rfl
  have N0 := Fr.nil n0
  have pre0 : ∀ t, Steps p.tables e below (s₁.setTop (mkF m 0 #[.val (.ref a1), .val (.int p2), .unset, .unset] [])) t → Steps p.tables e below (s₁.setTop (entryFrame m #[(.ref a1), (.int p2)] 4)) t := fun t k => castTop (ef_12 m a1 p2) k
  obtain ⟨T3, X3, e3, st3⟩ := getF X0 hx hZ hown (host := "") (Or.inl (hw _ (List.mem_of_getElem? (i := 52) rfl))) Via.refl e0 F_servedHome_a1 (g := (mkF m 1 #[.val (.ref a1), .val (.int p2), .unset, .unset] [(.ref a1)])) rfl rfl (hb hby d12_1)
  obtain ⟨T4, X4, e4, st4⟩ := getF X3 hx hZ hown (host := "") (Or.inl (hw _ (List.mem_of_getElem? (i := 37) rfl))) Via.refl e3 F_idleCount_a1 (g := (mkF m 7 #[.val (.ref a1), .val (.int p2), .unset, .unset] [(.ref a1), (.int (c_w_sh (p2).toNatClampNeg))])) rfl rfl (hb hby d12_7)
  have pre1 : ∀ t, Steps p.tables e below (T4.setTop (mkF m 12 #[.val (.ref a1), .val (.int p2), .unset, .unset] [(.int (c_w_ic (p2).toNatClampNeg)), (.int (c_w_sh (p2).toNatClampNeg))])) t → Steps p.tables e below (s₁.setTop (entryFrame m #[(.ref a1), (.int p2)] 4)) t := by
    intro t k
    refine pre0 t ?_
    refine XS.aloadN X0.here hx rfl (hb hby d12_0) rfl rfl ?_
    show Steps p.tables e below (s₁.setTop (mkF m 1 #[.val (.ref a1), .val (.int p2), .unset, .unset] [(.ref a1)])) _
    refine st3 _ ?_
    show Steps p.tables e below (T3.setTop (mkF m 4 #[.val (.ref a1), .val (.int p2), .unset, .unset] [(.ref w_sh)])) _
    refine XS.iloadN X3.here hx rfl (hb hby d12_4) rfl ?_
    show Steps p.tables e below (T3.setTop (mkF m 5 #[.val (.ref a1), .val (.int p2), .unset, .unset] [(.int p2), (.ref w_sh)])) _
    refine ldI X3 hx hZ e3 V_w_sh (j := p2) (own_i3 hp hl.1) (g := (mkF m 5 #[.val (.ref a1), .val (.int p2), .unset, .unset] [(.int p2), (.ref w_sh)])) rfl rfl (hb hby d12_5) ?_
    show Steps p.tables e below (T3.setTop (mkF m 6 #[.val (.ref a1), .val (.int p2), .unset, .unset] [(.int (c_w_sh (p2).toNatClampNeg))])) _
    refine XS.aloadN X3.here hx rfl (hb hby d12_6) rfl rfl ?_
    show Steps p.tables e below (T3.setTop (mkF m 7 #[.val (.ref a1), .val (.int p2), .unset, .unset] [(.ref a1), (.int (c_w_sh (p2).toNatClampNeg))])) _
    refine st4 _ ?_
    show Steps p.tables e below (T4.setTop (mkF m 10 #[.val (.ref a1), .val (.int p2), .unset, .unset] [(.ref w_ic), (.int (c_w_sh (p2).toNatClampNeg))])) _
    refine XS.iloadN X4.here hx rfl (hb hby d12_10) rfl ?_
    show Steps p.tables e below (T4.setTop (mkF m 11 #[.val (.ref a1), .val (.int p2), .unset, .unset] [(.int p2), (.ref w_ic), (.int (c_w_sh (p2).toNatClampNeg))])) _
    refine ldI X4 hx hZ e4 V_w_ic (j := p2) (own_i3 hp hl.2.1) (g := (mkF m 11 #[.val (.ref a1), .val (.int p2), .unset, .unset] [(.int p2), (.ref w_ic), (.int (c_w_sh (p2).toNatClampNeg))])) rfl rfl (hb hby d12_11) ?_
    exact k
  have pre2 : ∀ t, Steps p.tables e below (T4.setTop (mkF m 20 #[.val (.ref a1), .val (.int p2), .unset, .unset] [(.int (f12_s0_20 p2 c_w_sh c_w_ic))])) t → Steps p.tables e below (s₁.setTop (entryFrame m #[(.ref a1), (.int p2)] 4)) t := by
    intro t k
    by_cases hc12 : (c_w_sh (p2).toNatClampNeg) = (c_w_ic (p2).toNatClampNeg)
    · have eq3 := (show (f12_s0_20 p2 c_w_sh c_w_ic) = (1 : Int32) from by unfold f12_s0_20; simp only [if_pos hc12])
      try rw [eq3] at k
      refine pre1 t ?_
      refine XS.icmpNo X4.here hx rfl (hb hby d12_12) rfl (teq hc12).2 ?_
      refine XS.iconst X4.here hx rfl (hb hby d12_15) ?_
      refine XS.goto X4.here hx rfl (pc0 := 16) (pc' := 20) rfl (hb hby d12_16) (by decide) (by decide) ?_
      exact k
    · have eq4 := (show (f12_s0_20 p2 c_w_sh c_w_ic) = (0 : Int32) from by unfold f12_s0_20; simp only [if_neg hc12])
      try rw [eq4] at k
      refine pre1 t ?_
      show Steps p.tables e below (T4.setTop (mkF m 12 #[.val (.ref a1), .val (.int p2), .unset, .unset] [(.int (c_w_ic (p2).toNatClampNeg)), (.int (c_w_sh (p2).toNatClampNeg))])) _
      refine XS.icmpYes X4.here hx rfl (pc0 := 12) (pc' := 19) rfl (hb hby d12_12) rfl (feq hc12).2 (by decide) (by decide) ?_
      refine XS.iconst X4.here hx rfl (hb hby d12_19) ?_
      exact k
  obtain ⟨T5, X5, e5, st5⟩ := getF X4 hx hZ hown (host := "") (Or.inl (hw _ (List.mem_of_getElem? (i := 54) rfl))) Via.refl e4 F_ownLeaving_a1 (g := (mkF m 22 #[.val (.ref a1), .val (.int p2), .val (.int (f12_s0_20 p2 c_w_sh c_w_ic)), .unset] [(.ref a1)])) rfl rfl (hb hby d12_22)
  have pre5 : ∀ t, Steps p.tables e below (T5.setTop (mkF m 27 #[.val (.ref a1), .val (.int p2), .val (.int (f12_s0_20 p2 c_w_sh c_w_ic)), .unset] [(.int (c_w_ol (p2).toNatClampNeg))])) t → Steps p.tables e below (s₁.setTop (entryFrame m #[(.ref a1), (.int p2)] 4)) t := by
    intro t k
    refine pre2 t ?_
    refine XS.istoreN X4.here hx rfl (hb hby d12_20) rfl (l' := #[.val (.ref a1), .val (.int p2), .val (.int (f12_s0_20 p2 c_w_sh c_w_ic)), .unset]) rfl ?_
    refine XS.aloadN X4.here hx rfl (hb hby d12_21) rfl rfl ?_
    show Steps p.tables e below (T4.setTop (mkF m 22 #[.val (.ref a1), .val (.int p2), .val (.int (f12_s0_20 p2 c_w_sh c_w_ic)), .unset] [(.ref a1)])) _
    refine st5 _ ?_
    show Steps p.tables e below (T5.setTop (mkF m 25 #[.val (.ref a1), .val (.int p2), .val (.int (f12_s0_20 p2 c_w_sh c_w_ic)), .unset] [(.ref w_ol)])) _
    refine XS.iloadN X5.here hx rfl (hb hby d12_25) rfl ?_
    show Steps p.tables e below (T5.setTop (mkF m 26 #[.val (.ref a1), .val (.int p2), .val (.int (f12_s0_20 p2 c_w_sh c_w_ic)), .unset] [(.int p2), (.ref w_ol)])) _
    refine ldI X5 hx hZ e5 V_w_ol (j := p2) (own_i3 hp hl.2.2.1) (g := (mkF m 26 #[.val (.ref a1), .val (.int p2), .val (.int (f12_s0_20 p2 c_w_sh c_w_ic)), .unset] [(.int p2), (.ref w_ol)])) rfl rfl (hb hby d12_26) ?_
    exact k
  obtain ⟨T8, Lmpre6, X8, e8, N8, pre6⟩ : ∃ (T' : State) (L' : List Loc), Stand p l e ({ frames := 0, cells := 0, slots := 0, locals := 0 } : Room) s m #[(.ref a1), (.int p2)] below meth c T' L' 0 0 ∧ T'.heap = h0 ∧ Fr n0 L' ∧ ∀ t, Steps p.tables e below (T'.setTop (mkF m 50 #[.val (.ref a1), .val (.int p2), .val (.int (f12_s0_20 p2 c_w_sh c_w_ic)), .unset] [(.int (f12_s0_50 p2 c_w_sh c_w_ol c_w_se))])) t → Steps p.tables e below (s₁.setTop (entryFrame m #[(.ref a1), (.int p2)] 4)) t := by
    by_cases hc27 : (c_w_ol (p2).toNatClampNeg) < (0 : Int32)
    · have eq7 := (show (f12_s0_50 p2 c_w_sh c_w_ol c_w_se) = (0 : Int32) from by unfold f12_s0_50; simp only [if_pos hc27])
      refine ⟨T5, _, X5, e5, N0, fun t k => ?_⟩
      try rw [eq7] at k
      refine pre5 t ?_
      refine XS.ifYes X5.here hx rfl (pc0 := 27) (pc' := 49) rfl (hb hby d12_27) rfl ((if0 _ _).trans (tlt hc27).1) (by decide) (by decide) ?_
      refine XS.iconst X5.here hx rfl (hb hby d12_49) ?_
      exact k
    · obtain ⟨T6, X6, e6, st6⟩ := getF X5 hx hZ hown (host := "") (Or.inl (hw _ (List.mem_of_getElem? (i := 50) rfl))) Via.refl e5 F_served_a1 (g := (mkF m 31 #[.val (.ref a1), .val (.int p2), .val (.int (f12_s0_20 p2 c_w_sh c_w_ic)), .unset] [(.ref a1)])) rfl rfl (hb hby d12_31)
      obtain ⟨T7, X7, e7, st7⟩ := getF X6 hx hZ hown (host := "") (Or.inl (hw _ (List.mem_of_getElem? (i := 52) rfl))) Via.refl e6 F_servedHome_a1 (g := (mkF m 37 #[.val (.ref a1), .val (.int p2), .val (.int (f12_s0_20 p2 c_w_sh c_w_ic)), .unset] [(.ref a1), (.int (c_w_se (p2).toNatClampNeg))])) rfl rfl (hb hby d12_37)
      have pre8 : ∀ t, Steps p.tables e below (T7.setTop (mkF m 42 #[.val (.ref a1), .val (.int p2), .val (.int (f12_s0_20 p2 c_w_sh c_w_ic)), .unset] [(.int (c_w_sh (p2).toNatClampNeg)), (.int (c_w_se (p2).toNatClampNeg))])) t → Steps p.tables e below (s₁.setTop (entryFrame m #[(.ref a1), (.int p2)] 4)) t := by
        intro t k
        refine pre5 t ?_
        refine XS.ifNo X5.here hx rfl (hb hby d12_27) rfl ((if0 _ _).trans (flt hc27).1) ?_
        show Steps p.tables e below (T5.setTop (mkF m 30 #[.val (.ref a1), .val (.int p2), .val (.int (f12_s0_20 p2 c_w_sh c_w_ic)), .unset] [])) _
        refine XS.aloadN X5.here hx rfl (hb hby d12_30) rfl rfl ?_
        show Steps p.tables e below (T5.setTop (mkF m 31 #[.val (.ref a1), .val (.int p2), .val (.int (f12_s0_20 p2 c_w_sh c_w_ic)), .unset] [(.ref a1)])) _
        refine st6 _ ?_
        show Steps p.tables e below (T6.setTop (mkF m 34 #[.val (.ref a1), .val (.int p2), .val (.int (f12_s0_20 p2 c_w_sh c_w_ic)), .unset] [(.ref w_se)])) _
        refine XS.iloadN X6.here hx rfl (hb hby d12_34) rfl ?_
        show Steps p.tables e below (T6.setTop (mkF m 35 #[.val (.ref a1), .val (.int p2), .val (.int (f12_s0_20 p2 c_w_sh c_w_ic)), .unset] [(.int p2), (.ref w_se)])) _
        refine ldI X6 hx hZ e6 V_w_se (j := p2) (own_i3 hp hl.2.2.2.1) (g := (mkF m 35 #[.val (.ref a1), .val (.int p2), .val (.int (f12_s0_20 p2 c_w_sh c_w_ic)), .unset] [(.int p2), (.ref w_se)])) rfl rfl (hb hby d12_35) ?_
        show Steps p.tables e below (T6.setTop (mkF m 36 #[.val (.ref a1), .val (.int p2), .val (.int (f12_s0_20 p2 c_w_sh c_w_ic)), .unset] [(.int (c_w_se (p2).toNatClampNeg))])) _
        refine XS.aloadN X6.here hx rfl (hb hby d12_36) rfl rfl ?_
        show Steps p.tables e below (T6.setTop (mkF m 37 #[.val (.ref a1), .val (.int p2), .val (.int (f12_s0_20 p2 c_w_sh c_w_ic)), .unset] [(.ref a1), (.int (c_w_se (p2).toNatClampNeg))])) _
        refine st7 _ ?_
        show Steps p.tables e below (T7.setTop (mkF m 40 #[.val (.ref a1), .val (.int p2), .val (.int (f12_s0_20 p2 c_w_sh c_w_ic)), .unset] [(.ref w_sh), (.int (c_w_se (p2).toNatClampNeg))])) _
        refine XS.iloadN X7.here hx rfl (hb hby d12_40) rfl ?_
        show Steps p.tables e below (T7.setTop (mkF m 41 #[.val (.ref a1), .val (.int p2), .val (.int (f12_s0_20 p2 c_w_sh c_w_ic)), .unset] [(.int p2), (.ref w_sh), (.int (c_w_se (p2).toNatClampNeg))])) _
        refine ldI X7 hx hZ e7 V_w_sh (j := p2) (own_i3 hp hl.1) (g := (mkF m 41 #[.val (.ref a1), .val (.int p2), .val (.int (f12_s0_20 p2 c_w_sh c_w_ic)), .unset] [(.int p2), (.ref w_sh), (.int (c_w_se (p2).toNatClampNeg))])) rfl rfl (hb hby d12_41) ?_
        exact k
      by_cases hc42 : (c_w_sh (p2).toNatClampNeg) < (c_w_se (p2).toNatClampNeg)
      · have eq9 := (show (f12_s0_50 p2 c_w_sh c_w_ol c_w_se) = (1 : Int32) from by unfold f12_s0_50; simp only [if_neg hc27, if_pos hc42])
        refine ⟨T7, _, X7, e7, N0, fun t k => ?_⟩
        try rw [eq9] at k
        refine pre8 t ?_
        refine XS.icmpNo X7.here hx rfl (hb hby d12_42) rfl (tlt hc42).2.2.2 ?_
        refine XS.iconst X7.here hx rfl (hb hby d12_45) ?_
        refine XS.goto X7.here hx rfl (pc0 := 46) (pc' := 50) rfl (hb hby d12_46) (by decide) (by decide) ?_
        exact k
      · have eq10 := (show (f12_s0_50 p2 c_w_sh c_w_ol c_w_se) = (0 : Int32) from by unfold f12_s0_50; simp only [if_neg hc27, if_neg hc42])
        refine ⟨T7, _, X7, e7, N0, fun t k => ?_⟩
        try rw [eq10] at k
        refine pre8 t ?_
        show Steps p.tables e below (T7.setTop (mkF m 42 #[.val (.ref a1), .val (.int p2), .val (.int (f12_s0_20 p2 c_w_sh c_w_ic)), .unset] [(.int (c_w_sh (p2).toNatClampNeg)), (.int (c_w_se (p2).toNatClampNeg))])) _
        refine XS.icmpYes X7.here hx rfl (pc0 := 42) (pc' := 49) rfl (hb hby d12_42) rfl (flt hc42).2.2.2 (by decide) (by decide) ?_
        refine XS.iconst X7.here hx rfl (hb hby d12_49) ?_
        exact k
  obtain ⟨T9, X9, e9, st9⟩ := getF X8 hx hZ hown (host := "") (Or.inl (hw _ (List.mem_of_getElem? (i := 48) rfl))) Via.refl e8 F_open_a1 (g := (mkF m 52 #[.val (.ref a1), .val (.int p2), .val (.int (f12_s0_20 p2 c_w_sh c_w_ic)), .val (.int (f12_s0_50 p2 c_w_sh c_w_ol c_w_se))] [(.ref a1)])) rfl rfl (hb hby d12_52)
  have pre11 : ∀ t, Steps p.tables e below (T9.setTop (mkF m 57 #[.val (.ref a1), .val (.int p2), .val (.int (f12_s0_20 p2 c_w_sh c_w_ic)), .val (.int (f12_s0_50 p2 c_w_sh c_w_ol c_w_se))] [(.int (c_w_op (p2).toNatClampNeg))])) t → Steps p.tables e below (s₁.setTop (entryFrame m #[(.ref a1), (.int p2)] 4)) t := by
    intro t k
    refine pre6 t ?_
    refine XS.istoreN X8.here hx rfl (hb hby d12_50) rfl (l' := #[.val (.ref a1), .val (.int p2), .val (.int (f12_s0_20 p2 c_w_sh c_w_ic)), .val (.int (f12_s0_50 p2 c_w_sh c_w_ol c_w_se))]) rfl ?_
    refine XS.aloadN X8.here hx rfl (hb hby d12_51) rfl rfl ?_
    show Steps p.tables e below (T8.setTop (mkF m 52 #[.val (.ref a1), .val (.int p2), .val (.int (f12_s0_20 p2 c_w_sh c_w_ic)), .val (.int (f12_s0_50 p2 c_w_sh c_w_ol c_w_se))] [(.ref a1)])) _
    refine st9 _ ?_
    show Steps p.tables e below (T9.setTop (mkF m 55 #[.val (.ref a1), .val (.int p2), .val (.int (f12_s0_20 p2 c_w_sh c_w_ic)), .val (.int (f12_s0_50 p2 c_w_sh c_w_ol c_w_se))] [(.ref w_op)])) _
    refine XS.iloadN X9.here hx rfl (hb hby d12_55) rfl ?_
    show Steps p.tables e below (T9.setTop (mkF m 56 #[.val (.ref a1), .val (.int p2), .val (.int (f12_s0_20 p2 c_w_sh c_w_ic)), .val (.int (f12_s0_50 p2 c_w_sh c_w_ol c_w_se))] [(.int p2), (.ref w_op)])) _
    refine ldZ X9 hx hZ e9 V_w_op (j := p2) (own_i3 hp hl.2.2.2.2) (g := (mkF m 56 #[.val (.ref a1), .val (.int p2), .val (.int (f12_s0_20 p2 c_w_sh c_w_ic)), .val (.int (f12_s0_50 p2 c_w_sh c_w_ol c_w_se))] [(.int p2), (.ref w_op)])) rfl rfl (hb hby d12_56) ?_
    exact k
  by_cases hc57 : (c_w_op (p2).toNatClampNeg) = (0 : Int32)
  · have eq12 : (f12_o8 p2 w_unsettled_a1 z_w_sh c_w_sh z_w_ic c_w_ic z_w_ol c_w_ol z_w_se c_w_se z_w_op c_w_op) = w_unsettled_a1 := by unfold f12_o8; simp only [if_pos hc57]
    have eq13 : (f12_o9 p2 w_unsettled_a1 z_w_sh c_w_sh z_w_ic c_w_ic z_w_ol c_w_ol z_w_se c_w_se z_w_op c_w_op) = c_w_op := by unfold f12_o9; simp only [if_pos hc57]
    obtain ⟨fs, hr, hrun, hended, hW, hsame⟩ := X9.leave (v := none) (fun _ => rfl)
    refine ⟨_, _, pre11 _ ?_, hrun, hended, _, _, rfl, ?_, ⟨_, rfl⟩, hW, hsame.mono (by decide) (by decide)⟩
    · show Steps p.tables e below (T9.setTop (mkF m 57 #[.val (.ref a1), .val (.int p2), .val (.int (f12_s0_20 p2 c_w_sh c_w_ic)), .val (.int (f12_s0_50 p2 c_w_sh c_w_ol c_w_se))] [(.int (c_w_op (p2).toNatClampNeg))])) _
      refine XS.ifYes X9.here hx rfl (pc0 := 57) (pc' := 85) rfl (hb hby d12_57) rfl ((if0 _ _).trans (teq hc57).1) (by decide) (by decide) ?_
      show Steps p.tables e below (T9.setTop (mkF m 85 #[.val (.ref a1), .val (.int p2), .val (.int (f12_s0_20 p2 c_w_sh c_w_ic)), .val (.int (f12_s0_50 p2 c_w_sh c_w_ol c_w_se))] [])) _
      exact X9.returnOut hx Bd.returns (hb hby d12_85) hr
    · show Q12 Z a1 p2 w_ia w_ic w_op w_se w_sh w_ol w_al w_co w_unsettled_a1 z_w_sh c_w_sh z_w_ic c_w_ic z_w_ol c_w_ol z_w_se c_w_se z_w_op c_w_op h0 n0 _ T9.heap _
      rw [e9]
      exact ⟨rfl, N8, (Keep.refl h0 [a1, w_op]), F_idleAt_a1, F_idleCount_a1, F_open_a1, F_served_a1, F_servedHome_a1, F_ownLeaving_a1, F_anyLeaving_a1, F_counted_a1, (by rw [eq12]; exact F_unsettled_a1), (by rw [eq13]; exact V_w_op)⟩
  · have pre14 : ∀ t, Steps p.tables e below (T9.setTop (mkF m 61 #[.val (.ref a1), .val (.int p2), .val (.int (f12_s0_20 p2 c_w_sh c_w_ic)), .val (.int (f12_s0_50 p2 c_w_sh c_w_ol c_w_se))] [(.int (f12_s0_20 p2 c_w_sh c_w_ic))])) t → Steps p.tables e below (s₁.setTop (entryFrame m #[(.ref a1), (.int p2)] 4)) t := by
      intro t k
      refine pre11 t ?_
      refine XS.ifNo X9.here hx rfl (hb hby d12_57) rfl ((if0 _ _).trans (feq hc57).1) ?_
      refine XS.iloadN X9.here hx rfl (hb hby d12_60) rfl ?_
      exact k
    by_cases hc61 : (f12_s0_20 p2 c_w_sh c_w_ic) = (0 : Int32)
    · have pre15 : ∀ t, Steps p.tables e below (T9.setTop (mkF m 65 #[.val (.ref a1), .val (.int p2), .val (.int (f12_s0_20 p2 c_w_sh c_w_ic)), .val (.int (f12_s0_50 p2 c_w_sh c_w_ol c_w_se))] [(.int (f12_s0_50 p2 c_w_sh c_w_ol c_w_se))])) t → Steps p.tables e below (s₁.setTop (entryFrame m #[(.ref a1), (.int p2)] 4)) t := by
        intro t k
        refine pre14 t ?_
        refine XS.ifNo X9.here hx rfl (hb hby d12_61) rfl ((if0 _ _).trans (teq hc61).2) ?_
        show Steps p.tables e below (T9.setTop (mkF m 64 #[.val (.ref a1), .val (.int p2), .val (.int (f12_s0_20 p2 c_w_sh c_w_ic)), .val (.int (f12_s0_50 p2 c_w_sh c_w_ol c_w_se))] [])) _
        refine XS.iloadN X9.here hx rfl (hb hby d12_64) rfl ?_
        exact k
      by_cases hc65 : (f12_s0_50 p2 c_w_sh c_w_ol c_w_se) = (0 : Int32)
      · have eq16 : (f12_o8 p2 w_unsettled_a1 z_w_sh c_w_sh z_w_ic c_w_ic z_w_ol c_w_ol z_w_se c_w_se z_w_op c_w_op) = w_unsettled_a1 := by unfold f12_o8; simp only [if_neg hc57, if_pos hc61, if_pos hc65]
        have eq17 : (f12_o9 p2 w_unsettled_a1 z_w_sh c_w_sh z_w_ic c_w_ic z_w_ol c_w_ol z_w_se c_w_se z_w_op c_w_op) = c_w_op := by unfold f12_o9; simp only [if_neg hc57, if_pos hc61, if_pos hc65]
        obtain ⟨fs, hr, hrun, hended, hW, hsame⟩ := X9.leave (v := none) (fun _ => rfl)
        refine ⟨_, _, pre15 _ ?_, hrun, hended, _, _, rfl, ?_, ⟨_, rfl⟩, hW, hsame.mono (by decide) (by decide)⟩
        · show Steps p.tables e below (T9.setTop (mkF m 65 #[.val (.ref a1), .val (.int p2), .val (.int (f12_s0_20 p2 c_w_sh c_w_ic)), .val (.int (f12_s0_50 p2 c_w_sh c_w_ol c_w_se))] [(.int (f12_s0_50 p2 c_w_sh c_w_ol c_w_se))])) _
          refine XS.ifYes X9.here hx rfl (pc0 := 65) (pc' := 85) rfl (hb hby d12_65) rfl ((if0 _ _).trans (teq hc65).1) (by decide) (by decide) ?_
          show Steps p.tables e below (T9.setTop (mkF m 85 #[.val (.ref a1), .val (.int p2), .val (.int (f12_s0_20 p2 c_w_sh c_w_ic)), .val (.int (f12_s0_50 p2 c_w_sh c_w_ol c_w_se))] [])) _
          exact X9.returnOut hx Bd.returns (hb hby d12_85) hr
        · show Q12 Z a1 p2 w_ia w_ic w_op w_se w_sh w_ol w_al w_co w_unsettled_a1 z_w_sh c_w_sh z_w_ic c_w_ic z_w_ol c_w_ol z_w_se c_w_se z_w_op c_w_op h0 n0 _ T9.heap _
          rw [e9]
          exact ⟨rfl, N8, (Keep.refl h0 [a1, w_op]), F_idleAt_a1, F_idleCount_a1, F_open_a1, F_served_a1, F_servedHome_a1, F_ownLeaving_a1, F_anyLeaving_a1, F_counted_a1, (by rw [eq16]; exact F_unsettled_a1), (by rw [eq17]; exact V_w_op)⟩
      · obtain ⟨T10, X10, e10, st10⟩ := getF X9 hx hZ hown (host := "") (Or.inl (hw _ (List.mem_of_getElem? (i := 48) rfl))) Via.refl e9 F_open_a1 (g := (mkF m 69 #[.val (.ref a1), .val (.int p2), .val (.int (f12_s0_20 p2 c_w_sh c_w_ic)), .val (.int (f12_s0_50 p2 c_w_sh c_w_ol c_w_se))] [(.ref a1)])) rfl rfl (hb hby d12_69)
        obtain ⟨T11, h11, X11, e11, W11, V11, st11⟩ := sZ X10 hx hZ e10 V_w_op (j := p2) (own_i3 hp hl.2.2.2.2) (g := (mkF m 74 #[.val (.ref a1), .val (.int p2), .val (.int (f12_s0_20 p2 c_w_sh c_w_ic)), .val (.int (f12_s0_50 p2 c_w_sh c_w_ol c_w_se))] [(.int (0 : Int32)), (.int p2), (.ref w_op)])) rfl rfl (hb hby d12_74)
        have N11 := Fr.snoc X11 N8 g_w_op
        have c12 : n0 ≤ h11.size := Nat.le_trans Z0 (Keep.of_wr W11).1
        have c13 : Exa Z h11 a1 "com/example/podflow/podflow/simulation/Ballot" := E_a1.wr W11
        have c14 : Fld Z h11 a1 "com/example/podflow/podflow/simulation/Ballot" "idleAt" "[I" (.ref w_ia) := F_idleAt_a1.other W11 (Or.inl ne_a1_w_op)
        have c15 : Fld Z h11 a1 "com/example/podflow/podflow/simulation/Ballot" "idleCount" "[I" (.ref w_ic) := F_idleCount_a1.other W11 (Or.inl ne_a1_w_op)
        have c16 : Fld Z h11 a1 "com/example/podflow/podflow/simulation/Ballot" "open" "[Z" (.ref w_op) := F_open_a1.other W11 (Or.inl ne_a1_w_op)
        have c17 : Fld Z h11 a1 "com/example/podflow/podflow/simulation/Ballot" "served" "[I" (.ref w_se) := F_served_a1.other W11 (Or.inl ne_a1_w_op)
        have c18 : Fld Z h11 a1 "com/example/podflow/podflow/simulation/Ballot" "servedHome" "[I" (.ref w_sh) := F_servedHome_a1.other W11 (Or.inl ne_a1_w_op)
        have c19 : Fld Z h11 a1 "com/example/podflow/podflow/simulation/Ballot" "ownLeaving" "[I" (.ref w_ol) := F_ownLeaving_a1.other W11 (Or.inl ne_a1_w_op)
        have c20 : Fld Z h11 a1 "com/example/podflow/podflow/simulation/Ballot" "anyLeaving" "[I" (.ref w_al) := F_anyLeaving_a1.other W11 (Or.inl ne_a1_w_op)
        have c21 : Fld Z h11 a1 "com/example/podflow/podflow/simulation/Ballot" "counted" "[Z" (.ref w_co) := F_counted_a1.other W11 (Or.inl ne_a1_w_op)
        have c22 : Fld Z h11 a1 "com/example/podflow/podflow/simulation/Ballot" "unsettled" "I" (.int w_unsettled_a1) := F_unsettled_a1.other W11 (Or.inl ne_a1_w_op)
        have c27 : IAr Z h11 w_op .boolean z_w_op (f12_v74 p2 c_w_op) := V11
        have c28 : Keep h0 h11 [a1, w_op] := (Keep.refl h0 [a1, w_op]).wr W11 (Or.inl (List.mem_of_getElem? (i := 1) rfl))
        obtain ⟨T29, X29, e29, st29⟩ := getF X11 hx hZ hown (host := "") (Or.inl (hw _ (List.mem_of_getElem? (i := 64) rfl))) Via.refl e11 c22 (g := (mkF m 77 #[.val (.ref a1), .val (.int p2), .val (.int (f12_s0_20 p2 c_w_sh c_w_ic)), .val (.int (f12_s0_50 p2 c_w_sh c_w_ol c_w_se))] [(.ref a1), (.ref a1)])) rfl rfl (hb hby d12_77)
        obtain ⟨T30, h30, X30, e30, W30, st30⟩ := putF X29 hx hZ hown (host := "") (Or.inl (hw _ (List.mem_of_getElem? (i := 64) rfl))) Via.refl e29 c22 c13 (Or.inl (hw _ (List.mem_of_getElem? (i := 65) rfl))) (hw _ (List.mem_of_getElem? (i := 29) rfl)) (ty := .int) (by decide) rfl rfl (g := (mkF m 82 #[.val (.ref a1), .val (.int p2), .val (.int (f12_s0_20 p2 c_w_sh c_w_ic)), .val (.int (f12_s0_50 p2 c_w_sh c_w_ol c_w_se))] [(.int (w_unsettled_a1 - (1 : Int32))), (.ref a1)])) rfl rfl (hb hby d12_82)
        have N30 := Fr.snoc X30 N11 g_a1
        have c31 : n0 ≤ h30.size := Nat.le_trans c12 (Keep.of_wr W30).1
        have c32 : Exa Z h30 a1 "com/example/podflow/podflow/simulation/Ballot" := c13.wr W30
        have c33 : Fld Z h30 a1 "com/example/podflow/podflow/simulation/Ballot" "idleAt" "[I" (.ref w_ia) := c14.other W30 (Or.inr (slot_ne (Or.inr (hw _ (List.mem_of_getElem? (i := 36) rfl))) (Or.inl (hw _ (List.mem_of_getElem? (i := 65) rfl))) (by decide) (t := (.array .int)) (t' := .int) (by decide) (by decide)))
        have c34 : Fld Z h30 a1 "com/example/podflow/podflow/simulation/Ballot" "idleCount" "[I" (.ref w_ic) := c15.other W30 (Or.inr (slot_ne (Or.inr (hw _ (List.mem_of_getElem? (i := 38) rfl))) (Or.inl (hw _ (List.mem_of_getElem? (i := 65) rfl))) (by decide) (t := (.array .int)) (t' := .int) (by decide) (by decide)))
        have c35 : Fld Z h30 a1 "com/example/podflow/podflow/simulation/Ballot" "open" "[Z" (.ref w_op) := c16.other W30 (Or.inr (slot_ne (Or.inr (hw _ (List.mem_of_getElem? (i := 49) rfl))) (Or.inl (hw _ (List.mem_of_getElem? (i := 65) rfl))) (by decide) (t := (.array .boolean)) (t' := .int) (by decide) (by decide)))
        have c36 : Fld Z h30 a1 "com/example/podflow/podflow/simulation/Ballot" "served" "[I" (.ref w_se) := c17.other W30 (Or.inr (slot_ne (Or.inr (hw _ (List.mem_of_getElem? (i := 51) rfl))) (Or.inl (hw _ (List.mem_of_getElem? (i := 65) rfl))) (by decide) (t := (.array .int)) (t' := .int) (by decide) (by decide)))
        have c37 : Fld Z h30 a1 "com/example/podflow/podflow/simulation/Ballot" "servedHome" "[I" (.ref w_sh) := c18.other W30 (Or.inr (slot_ne (Or.inr (hw _ (List.mem_of_getElem? (i := 53) rfl))) (Or.inl (hw _ (List.mem_of_getElem? (i := 65) rfl))) (by decide) (t := (.array .int)) (t' := .int) (by decide) (by decide)))
        have c38 : Fld Z h30 a1 "com/example/podflow/podflow/simulation/Ballot" "ownLeaving" "[I" (.ref w_ol) := c19.other W30 (Or.inr (slot_ne (Or.inr (hw _ (List.mem_of_getElem? (i := 55) rfl))) (Or.inl (hw _ (List.mem_of_getElem? (i := 65) rfl))) (by decide) (t := (.array .int)) (t' := .int) (by decide) (by decide)))
        have c39 : Fld Z h30 a1 "com/example/podflow/podflow/simulation/Ballot" "anyLeaving" "[I" (.ref w_al) := c20.other W30 (Or.inr (slot_ne (Or.inr (hw _ (List.mem_of_getElem? (i := 57) rfl))) (Or.inl (hw _ (List.mem_of_getElem? (i := 65) rfl))) (by decide) (t := (.array .int)) (t' := .int) (by decide) (by decide)))
        have c40 : Fld Z h30 a1 "com/example/podflow/podflow/simulation/Ballot" "counted" "[Z" (.ref w_co) := c21.other W30 (Or.inr (slot_ne (Or.inr (hw _ (List.mem_of_getElem? (i := 59) rfl))) (Or.inl (hw _ (List.mem_of_getElem? (i := 65) rfl))) (by decide) (t := (.array .boolean)) (t' := .int) (by decide) (by decide)))
        have c41 : Fld Z h30 a1 "com/example/podflow/podflow/simulation/Ballot" "unsettled" "I" (.int (w_unsettled_a1 - (1 : Int32))) := c22.same W30
        have c42 : IAr Z h30 w_op .boolean z_w_op (f12_v74 p2 c_w_op) := c27.other W30 (Ne.symm ne_a1_w_op)
        have c43 : Keep h0 h30 [a1, w_op] := c28.wr W30 (Or.inl (List.mem_of_getElem? (i := 0) rfl))
        have eq18 : (f12_o8 p2 w_unsettled_a1 z_w_sh c_w_sh z_w_ic c_w_ic z_w_ol c_w_ol z_w_se c_w_se z_w_op c_w_op) = (w_unsettled_a1 - (1 : Int32)) := by unfold f12_o8; simp only [if_neg hc57, if_pos hc61, if_neg hc65]
        have eq19 : (f12_o9 p2 w_unsettled_a1 z_w_sh c_w_sh z_w_ic c_w_ic z_w_ol c_w_ol z_w_se c_w_se z_w_op c_w_op) = (f12_v74 p2 c_w_op) := by unfold f12_o9; simp only [if_neg hc57, if_pos hc61, if_neg hc65]
        obtain ⟨fs, hr, hrun, hended, hW, hsame⟩ := X30.leave (v := none) (fun _ => rfl)
        refine ⟨_, _, pre15 _ ?_, hrun, hended, _, _, rfl, ?_, ⟨_, rfl⟩, hW, hsame.mono (by decide) (by decide)⟩
        · show Steps p.tables e below (T9.setTop (mkF m 65 #[.val (.ref a1), .val (.int p2), .val (.int (f12_s0_20 p2 c_w_sh c_w_ic)), .val (.int (f12_s0_50 p2 c_w_sh c_w_ol c_w_se))] [(.int (f12_s0_50 p2 c_w_sh c_w_ol c_w_se))])) _
          refine XS.ifNo X9.here hx rfl (hb hby d12_65) rfl ((if0 _ _).trans (feq hc65).1) ?_
          refine XS.aloadN X9.here hx rfl (hb hby d12_68) rfl rfl ?_
          show Steps p.tables e below (T9.setTop (mkF m 69 #[.val (.ref a1), .val (.int p2), .val (.int (f12_s0_20 p2 c_w_sh c_w_ic)), .val (.int (f12_s0_50 p2 c_w_sh c_w_ol c_w_se))] [(.ref a1)])) _
          refine st10 _ ?_
          show Steps p.tables e below (T10.setTop (mkF m 72 #[.val (.ref a1), .val (.int p2), .val (.int (f12_s0_20 p2 c_w_sh c_w_ic)), .val (.int (f12_s0_50 p2 c_w_sh c_w_ol c_w_se))] [(.ref w_op)])) _
          refine XS.iloadN X10.here hx rfl (hb hby d12_72) rfl ?_
          refine XS.iconst X10.here hx rfl (hb hby d12_73) ?_
          show Steps p.tables e below (T10.setTop (mkF m 74 #[.val (.ref a1), .val (.int p2), .val (.int (f12_s0_20 p2 c_w_sh c_w_ic)), .val (.int (f12_s0_50 p2 c_w_sh c_w_ol c_w_se))] [(.int (0 : Int32)), (.int p2), (.ref w_op)])) _
          refine st11 _ ?_
          show Steps p.tables e below (T11.setTop (mkF m 75 #[.val (.ref a1), .val (.int p2), .val (.int (f12_s0_20 p2 c_w_sh c_w_ic)), .val (.int (f12_s0_50 p2 c_w_sh c_w_ol c_w_se))] [])) _
          refine XS.aloadN X11.here hx rfl (hb hby d12_75) rfl rfl ?_
          refine XS.dup X11.here hx rfl (hb hby d12_76) rfl rfl ?_
          show Steps p.tables e below (T11.setTop (mkF m 77 #[.val (.ref a1), .val (.int p2), .val (.int (f12_s0_20 p2 c_w_sh c_w_ic)), .val (.int (f12_s0_50 p2 c_w_sh c_w_ol c_w_se))] [(.ref a1), (.ref a1)])) _
          refine st29 _ ?_
          show Steps p.tables e below (T29.setTop (mkF m 80 #[.val (.ref a1), .val (.int p2), .val (.int (f12_s0_20 p2 c_w_sh c_w_ic)), .val (.int (f12_s0_50 p2 c_w_sh c_w_ol c_w_se))] [(.int w_unsettled_a1), (.ref a1)])) _
          refine XS.iconst X29.here hx rfl (hb hby d12_80) ?_
          refine XS.isub X29.here hx rfl (hb hby d12_81) rfl ?_
          show Steps p.tables e below (T29.setTop (mkF m 82 #[.val (.ref a1), .val (.int p2), .val (.int (f12_s0_20 p2 c_w_sh c_w_ic)), .val (.int (f12_s0_50 p2 c_w_sh c_w_ol c_w_se))] [(.int (w_unsettled_a1 - (1 : Int32))), (.ref a1)])) _
          refine st30 _ ?_
          show Steps p.tables e below (T30.setTop (mkF m 85 #[.val (.ref a1), .val (.int p2), .val (.int (f12_s0_20 p2 c_w_sh c_w_ic)), .val (.int (f12_s0_50 p2 c_w_sh c_w_ol c_w_se))] [])) _
          exact X30.returnOut hx Bd.returns (hb hby d12_85) hr
        · show Q12 Z a1 p2 w_ia w_ic w_op w_se w_sh w_ol w_al w_co w_unsettled_a1 z_w_sh c_w_sh z_w_ic c_w_ic z_w_ol c_w_ol z_w_se c_w_se z_w_op c_w_op h0 n0 _ T30.heap _
          rw [e30]
          exact ⟨rfl, N30, c43, c33, c34, c35, c36, c37, c38, c39, c40, (by rw [eq18]; exact c41), (by rw [eq19]; exact c42)⟩
    · obtain ⟨T44, X44, e44, st44⟩ := getF X9 hx hZ hown (host := "") (Or.inl (hw _ (List.mem_of_getElem? (i := 48) rfl))) Via.refl e9 F_open_a1 (g := (mkF m 69 #[.val (.ref a1), .val (.int p2), .val (.int (f12_s0_20 p2 c_w_sh c_w_ic)), .val (.int (f12_s0_50 p2 c_w_sh c_w_ol c_w_se))] [(.ref a1)])) rfl rfl (hb hby d12_69)
      obtain ⟨T45, h45, X45, e45, W45, V45, st45⟩ := sZ X44 hx hZ e44 V_w_op (j := p2) (own_i3 hp hl.2.2.2.2) (g := (mkF m 74 #[.val (.ref a1), .val (.int p2), .val (.int (f12_s0_20 p2 c_w_sh c_w_ic)), .val (.int (f12_s0_50 p2 c_w_sh c_w_ol c_w_se))] [(.int (0 : Int32)), (.int p2), (.ref w_op)])) rfl rfl (hb hby d12_74)
      have N45 := Fr.snoc X45 N8 g_w_op
      have c46 : n0 ≤ h45.size := Nat.le_trans Z0 (Keep.of_wr W45).1
      have c47 : Exa Z h45 a1 "com/example/podflow/podflow/simulation/Ballot" := E_a1.wr W45
      have c48 : Fld Z h45 a1 "com/example/podflow/podflow/simulation/Ballot" "idleAt" "[I" (.ref w_ia) := F_idleAt_a1.other W45 (Or.inl ne_a1_w_op)
      have c49 : Fld Z h45 a1 "com/example/podflow/podflow/simulation/Ballot" "idleCount" "[I" (.ref w_ic) := F_idleCount_a1.other W45 (Or.inl ne_a1_w_op)
      have c50 : Fld Z h45 a1 "com/example/podflow/podflow/simulation/Ballot" "open" "[Z" (.ref w_op) := F_open_a1.other W45 (Or.inl ne_a1_w_op)
      have c51 : Fld Z h45 a1 "com/example/podflow/podflow/simulation/Ballot" "served" "[I" (.ref w_se) := F_served_a1.other W45 (Or.inl ne_a1_w_op)
      have c52 : Fld Z h45 a1 "com/example/podflow/podflow/simulation/Ballot" "servedHome" "[I" (.ref w_sh) := F_servedHome_a1.other W45 (Or.inl ne_a1_w_op)
      have c53 : Fld Z h45 a1 "com/example/podflow/podflow/simulation/Ballot" "ownLeaving" "[I" (.ref w_ol) := F_ownLeaving_a1.other W45 (Or.inl ne_a1_w_op)
      have c54 : Fld Z h45 a1 "com/example/podflow/podflow/simulation/Ballot" "anyLeaving" "[I" (.ref w_al) := F_anyLeaving_a1.other W45 (Or.inl ne_a1_w_op)
      have c55 : Fld Z h45 a1 "com/example/podflow/podflow/simulation/Ballot" "counted" "[Z" (.ref w_co) := F_counted_a1.other W45 (Or.inl ne_a1_w_op)
      have c56 : Fld Z h45 a1 "com/example/podflow/podflow/simulation/Ballot" "unsettled" "I" (.int w_unsettled_a1) := F_unsettled_a1.other W45 (Or.inl ne_a1_w_op)
      have c61 : IAr Z h45 w_op .boolean z_w_op (f12_v74 p2 c_w_op) := V45
      have c62 : Keep h0 h45 [a1, w_op] := (Keep.refl h0 [a1, w_op]).wr W45 (Or.inl (List.mem_of_getElem? (i := 1) rfl))
      obtain ⟨T63, X63, e63, st63⟩ := getF X45 hx hZ hown (host := "") (Or.inl (hw _ (List.mem_of_getElem? (i := 64) rfl))) Via.refl e45 c56 (g := (mkF m 77 #[.val (.ref a1), .val (.int p2), .val (.int (f12_s0_20 p2 c_w_sh c_w_ic)), .val (.int (f12_s0_50 p2 c_w_sh c_w_ol c_w_se))] [(.ref a1), (.ref a1)])) rfl rfl (hb hby d12_77)
      obtain ⟨T64, h64, X64, e64, W64, st64⟩ := putF X63 hx hZ hown (host := "") (Or.inl (hw _ (List.mem_of_getElem? (i := 64) rfl))) Via.refl e63 c56 c47 (Or.inl (hw _ (List.mem_of_getElem? (i := 65) rfl))) (hw _ (List.mem_of_getElem? (i := 29) rfl)) (ty := .int) (by decide) rfl rfl (g := (mkF m 82 #[.val (.ref a1), .val (.int p2), .val (.int (f12_s0_20 p2 c_w_sh c_w_ic)), .val (.int (f12_s0_50 p2 c_w_sh c_w_ol c_w_se))] [(.int (w_unsettled_a1 - (1 : Int32))), (.ref a1)])) rfl rfl (hb hby d12_82)
      have N64 := Fr.snoc X64 N45 g_a1
      have c65 : n0 ≤ h64.size := Nat.le_trans c46 (Keep.of_wr W64).1
      have c66 : Exa Z h64 a1 "com/example/podflow/podflow/simulation/Ballot" := c47.wr W64
      have c67 : Fld Z h64 a1 "com/example/podflow/podflow/simulation/Ballot" "idleAt" "[I" (.ref w_ia) := c48.other W64 (Or.inr (slot_ne (Or.inr (hw _ (List.mem_of_getElem? (i := 36) rfl))) (Or.inl (hw _ (List.mem_of_getElem? (i := 65) rfl))) (by decide) (t := (.array .int)) (t' := .int) (by decide) (by decide)))
      have c68 : Fld Z h64 a1 "com/example/podflow/podflow/simulation/Ballot" "idleCount" "[I" (.ref w_ic) := c49.other W64 (Or.inr (slot_ne (Or.inr (hw _ (List.mem_of_getElem? (i := 38) rfl))) (Or.inl (hw _ (List.mem_of_getElem? (i := 65) rfl))) (by decide) (t := (.array .int)) (t' := .int) (by decide) (by decide)))
      have c69 : Fld Z h64 a1 "com/example/podflow/podflow/simulation/Ballot" "open" "[Z" (.ref w_op) := c50.other W64 (Or.inr (slot_ne (Or.inr (hw _ (List.mem_of_getElem? (i := 49) rfl))) (Or.inl (hw _ (List.mem_of_getElem? (i := 65) rfl))) (by decide) (t := (.array .boolean)) (t' := .int) (by decide) (by decide)))
      have c70 : Fld Z h64 a1 "com/example/podflow/podflow/simulation/Ballot" "served" "[I" (.ref w_se) := c51.other W64 (Or.inr (slot_ne (Or.inr (hw _ (List.mem_of_getElem? (i := 51) rfl))) (Or.inl (hw _ (List.mem_of_getElem? (i := 65) rfl))) (by decide) (t := (.array .int)) (t' := .int) (by decide) (by decide)))
      have c71 : Fld Z h64 a1 "com/example/podflow/podflow/simulation/Ballot" "servedHome" "[I" (.ref w_sh) := c52.other W64 (Or.inr (slot_ne (Or.inr (hw _ (List.mem_of_getElem? (i := 53) rfl))) (Or.inl (hw _ (List.mem_of_getElem? (i := 65) rfl))) (by decide) (t := (.array .int)) (t' := .int) (by decide) (by decide)))
      have c72 : Fld Z h64 a1 "com/example/podflow/podflow/simulation/Ballot" "ownLeaving" "[I" (.ref w_ol) := c53.other W64 (Or.inr (slot_ne (Or.inr (hw _ (List.mem_of_getElem? (i := 55) rfl))) (Or.inl (hw _ (List.mem_of_getElem? (i := 65) rfl))) (by decide) (t := (.array .int)) (t' := .int) (by decide) (by decide)))
      have c73 : Fld Z h64 a1 "com/example/podflow/podflow/simulation/Ballot" "anyLeaving" "[I" (.ref w_al) := c54.other W64 (Or.inr (slot_ne (Or.inr (hw _ (List.mem_of_getElem? (i := 57) rfl))) (Or.inl (hw _ (List.mem_of_getElem? (i := 65) rfl))) (by decide) (t := (.array .int)) (t' := .int) (by decide) (by decide)))
      have c74 : Fld Z h64 a1 "com/example/podflow/podflow/simulation/Ballot" "counted" "[Z" (.ref w_co) := c55.other W64 (Or.inr (slot_ne (Or.inr (hw _ (List.mem_of_getElem? (i := 59) rfl))) (Or.inl (hw _ (List.mem_of_getElem? (i := 65) rfl))) (by decide) (t := (.array .boolean)) (t' := .int) (by decide) (by decide)))
      have c75 : Fld Z h64 a1 "com/example/podflow/podflow/simulation/Ballot" "unsettled" "I" (.int (w_unsettled_a1 - (1 : Int32))) := c56.same W64
      have c76 : IAr Z h64 w_op .boolean z_w_op (f12_v74 p2 c_w_op) := c61.other W64 (Ne.symm ne_a1_w_op)
      have c77 : Keep h0 h64 [a1, w_op] := c62.wr W64 (Or.inl (List.mem_of_getElem? (i := 0) rfl))
      have eq20 : (f12_o8 p2 w_unsettled_a1 z_w_sh c_w_sh z_w_ic c_w_ic z_w_ol c_w_ol z_w_se c_w_se z_w_op c_w_op) = (w_unsettled_a1 - (1 : Int32)) := by unfold f12_o8; simp only [if_neg hc57, if_neg hc61]
      have eq21 : (f12_o9 p2 w_unsettled_a1 z_w_sh c_w_sh z_w_ic c_w_ic z_w_ol c_w_ol z_w_se c_w_se z_w_op c_w_op) = (f12_v74 p2 c_w_op) := by unfold f12_o9; simp only [if_neg hc57, if_neg hc61]
      obtain ⟨fs, hr, hrun, hended, hW, hsame⟩ := X64.leave (v := none) (fun _ => rfl)
      refine ⟨_, _, pre14 _ ?_, hrun, hended, _, _, rfl, ?_, ⟨_, rfl⟩, hW, hsame.mono (by decide) (by decide)⟩
      · show Steps p.tables e below (T9.setTop (mkF m 61 #[.val (.ref a1), .val (.int p2), .val (.int (f12_s0_20 p2 c_w_sh c_w_ic)), .val (.int (f12_s0_50 p2 c_w_sh c_w_ol c_w_se))] [(.int (f12_s0_20 p2 c_w_sh c_w_ic))])) _
        refine XS.ifYes X9.here hx rfl (pc0 := 61) (pc' := 68) rfl (hb hby d12_61) rfl ((if0 _ _).trans (feq hc61).2) (by decide) (by decide) ?_
        refine XS.aloadN X9.here hx rfl (hb hby d12_68) rfl rfl ?_
        show Steps p.tables e below (T9.setTop (mkF m 69 #[.val (.ref a1), .val (.int p2), .val (.int (f12_s0_20 p2 c_w_sh c_w_ic)), .val (.int (f12_s0_50 p2 c_w_sh c_w_ol c_w_se))] [(.ref a1)])) _
        refine st44 _ ?_
        show Steps p.tables e below (T44.setTop (mkF m 72 #[.val (.ref a1), .val (.int p2), .val (.int (f12_s0_20 p2 c_w_sh c_w_ic)), .val (.int (f12_s0_50 p2 c_w_sh c_w_ol c_w_se))] [(.ref w_op)])) _
        refine XS.iloadN X44.here hx rfl (hb hby d12_72) rfl ?_
        refine XS.iconst X44.here hx rfl (hb hby d12_73) ?_
        show Steps p.tables e below (T44.setTop (mkF m 74 #[.val (.ref a1), .val (.int p2), .val (.int (f12_s0_20 p2 c_w_sh c_w_ic)), .val (.int (f12_s0_50 p2 c_w_sh c_w_ol c_w_se))] [(.int (0 : Int32)), (.int p2), (.ref w_op)])) _
        refine st45 _ ?_
        show Steps p.tables e below (T45.setTop (mkF m 75 #[.val (.ref a1), .val (.int p2), .val (.int (f12_s0_20 p2 c_w_sh c_w_ic)), .val (.int (f12_s0_50 p2 c_w_sh c_w_ol c_w_se))] [])) _
        refine XS.aloadN X45.here hx rfl (hb hby d12_75) rfl rfl ?_
        refine XS.dup X45.here hx rfl (hb hby d12_76) rfl rfl ?_
        show Steps p.tables e below (T45.setTop (mkF m 77 #[.val (.ref a1), .val (.int p2), .val (.int (f12_s0_20 p2 c_w_sh c_w_ic)), .val (.int (f12_s0_50 p2 c_w_sh c_w_ol c_w_se))] [(.ref a1), (.ref a1)])) _
        refine st63 _ ?_
        show Steps p.tables e below (T63.setTop (mkF m 80 #[.val (.ref a1), .val (.int p2), .val (.int (f12_s0_20 p2 c_w_sh c_w_ic)), .val (.int (f12_s0_50 p2 c_w_sh c_w_ol c_w_se))] [(.int w_unsettled_a1), (.ref a1)])) _
        refine XS.iconst X63.here hx rfl (hb hby d12_80) ?_
        refine XS.isub X63.here hx rfl (hb hby d12_81) rfl ?_
        show Steps p.tables e below (T63.setTop (mkF m 82 #[.val (.ref a1), .val (.int p2), .val (.int (f12_s0_20 p2 c_w_sh c_w_ic)), .val (.int (f12_s0_50 p2 c_w_sh c_w_ol c_w_se))] [(.int (w_unsettled_a1 - (1 : Int32))), (.ref a1)])) _
        refine st64 _ ?_
        show Steps p.tables e below (T64.setTop (mkF m 85 #[.val (.ref a1), .val (.int p2), .val (.int (f12_s0_20 p2 c_w_sh c_w_ic)), .val (.int (f12_s0_50 p2 c_w_sh c_w_ol c_w_se))] [])) _
        exact X64.returnOut hx Bd.returns (hb hby d12_85) hr
      · show Q12 Z a1 p2 w_ia w_ic w_op w_se w_sh w_ol w_al w_co w_unsettled_a1 z_w_sh c_w_sh z_w_ic c_w_ic z_w_ol c_w_ol z_w_se c_w_se z_w_op c_w_op h0 n0 _ T64.heap _
        rw [e64]
        exact ⟨rfl, N64, c77, c67, c68, c69, c70, c71, c72, c73, c74, (by rw [eq20]; exact c75), (by rw [eq21]; exact c76)⟩
theorem pd_2 : parseMethodDescriptor "()I" = some ⟨[], some .int⟩ := by decide +kernel
theorem pd_3 : parseMethodDescriptor "(I)V" = some ⟨[.int], none⟩ := by decide +kernel
theorem d8_0 : decode prog_56_method_2_code 0 = .ok (.aload_n 1, 1) := by decide +kernel
theorem d8_1 : decode prog_56_method_2_code 1 = .ok (.invokevirtual 50, 3) := by decide +kernel
theorem d8_4 : decode prog_56_method_2_code 4 = .ok (.istore_n 2, 1) := by decide +kernel
theorem d8_5 : decode prog_56_method_2_code 5 = .ok (.aload_n 1, 1) := by decide +kernel
theorem d8_6 : decode prog_56_method_2_code 6 = .ok (.invokevirtual 56, 3) := by decide +kernel
theorem d8_9 : decode prog_56_method_2_code 9 = .ok (.istore_n 3, 1) := by decide +kernel
theorem d8_10 : decode prog_56_method_2_code 10 = .ok (.aload_n 1, 1) := by decide +kernel
theorem d8_11 : decode prog_56_method_2_code 11 = .ok (.invokevirtual 59, 3) := by decide +kernel
theorem d8_14 : decode prog_56_method_2_code 14 = .ok (.istore 4, 2) := by decide +kernel
theorem d8_16 : decode prog_56_method_2_code 16 = .ok (.iload_n 3, 1) := by decide +kernel
theorem d8_17 : decode prog_56_method_2_code 17 = .ok (.iload 4, 2) := by decide +kernel
theorem d8_19 : decode prog_56_method_2_code 19 = .ok (.if_icmp .eq 20, 3) := by decide +kernel
theorem d8_22 : decode prog_56_method_2_code 22 = .ok (.aload_n 0, 1) := by decide +kernel
theorem d8_23 : decode prog_56_method_2_code 23 = .ok (.getfield 34, 3) := by decide +kernel
theorem d8_26 : decode prog_56_method_2_code 26 = .ok (.iload_n 3, 1) := by decide +kernel
theorem d8_27 : decode prog_56_method_2_code 27 = .ok (.iaload, 1) := by decide +kernel
theorem d8_28 : decode prog_56_method_2_code 28 = .ok (.ifCond .ge 11, 3) := by decide +kernel
theorem d8_31 : decode prog_56_method_2_code 31 = .ok (.aload_n 0, 1) := by decide +kernel
theorem d8_32 : decode prog_56_method_2_code 32 = .ok (.getfield 34, 3) := by decide +kernel
theorem d8_35 : decode prog_56_method_2_code 35 = .ok (.iload_n 3, 1) := by decide +kernel
theorem d8_36 : decode prog_56_method_2_code 36 = .ok (.iload 4, 2) := by decide +kernel
theorem d8_38 : decode prog_56_method_2_code 38 = .ok (.iastore, 1) := by decide +kernel
theorem d8_39 : decode prog_56_method_2_code 39 = .ok (.iload_n 3, 1) := by decide +kernel
theorem d8_40 : decode prog_56_method_2_code 40 = .ok (.iload 4, 2) := by decide +kernel
theorem d8_42 : decode prog_56_method_2_code 42 = .ok (.if_icmp .eq 30, 3) := by decide +kernel
theorem d8_45 : decode prog_56_method_2_code 45 = .ok (.aload_n 0, 1) := by decide +kernel
theorem d8_46 : decode prog_56_method_2_code 46 = .ok (.getfield 7, 3) := by decide +kernel
theorem d8_49 : decode prog_56_method_2_code 49 = .ok (.iload_n 2, 1) := by decide +kernel
theorem d8_50 : decode prog_56_method_2_code 50 = .ok (.iaload, 1) := by decide +kernel
theorem d8_51 : decode prog_56_method_2_code 51 = .ok (.iload_n 3, 1) := by decide +kernel
theorem d8_52 : decode prog_56_method_2_code 52 = .ok (.if_icmp .ne 20, 3) := by decide +kernel
theorem d8_55 : decode prog_56_method_2_code 55 = .ok (.aload_n 0, 1) := by decide +kernel
theorem d8_56 : decode prog_56_method_2_code 56 = .ok (.getfield 31, 3) := by decide +kernel
theorem d8_59 : decode prog_56_method_2_code 59 = .ok (.iload_n 3, 1) := by decide +kernel
theorem d8_60 : decode prog_56_method_2_code 60 = .ok (.iaload, 1) := by decide +kernel
theorem d8_61 : decode prog_56_method_2_code 61 = .ok (.ifCond .ge 11, 3) := by decide +kernel
theorem d8_64 : decode prog_56_method_2_code 64 = .ok (.aload_n 0, 1) := by decide +kernel
theorem d8_65 : decode prog_56_method_2_code 65 = .ok (.getfield 31, 3) := by decide +kernel
theorem d8_68 : decode prog_56_method_2_code 68 = .ok (.iload_n 3, 1) := by decide +kernel
theorem d8_69 : decode prog_56_method_2_code 69 = .ok (.iload 4, 2) := by decide +kernel
theorem d8_71 : decode prog_56_method_2_code 71 = .ok (.iastore, 1) := by decide +kernel
theorem d8_72 : decode prog_56_method_2_code 72 = .ok (.aload_n 0, 1) := by decide +kernel
theorem d8_73 : decode prog_56_method_2_code 73 = .ok (.getfield 7, 3) := by decide +kernel
theorem d8_76 : decode prog_56_method_2_code 76 = .ok (.iload_n 2, 1) := by decide +kernel
theorem d8_77 : decode prog_56_method_2_code 77 = .ok (.iaload, 1) := by decide +kernel
theorem d8_78 : decode prog_56_method_2_code 78 = .ok (.istore 5, 2) := by decide +kernel
theorem d8_80 : decode prog_56_method_2_code 80 = .ok (.iload 5, 2) := by decide +kernel
theorem d8_82 : decode prog_56_method_2_code 82 = .ok (.ifCond .lt 48, 3) := by decide +kernel
theorem d8_85 : decode prog_56_method_2_code 85 = .ok (.aload_n 0, 1) := by decide +kernel
theorem d8_86 : decode prog_56_method_2_code 86 = .ok (.getfield 37, 3) := by decide +kernel
theorem d8_89 : decode prog_56_method_2_code 89 = .ok (.iload_n 2, 1) := by decide +kernel
theorem d8_90 : decode prog_56_method_2_code 90 = .ok (.baload, 1) := by decide +kernel
theorem d8_91 : decode prog_56_method_2_code 91 = .ok (.ifCond .ne 39, 3) := by decide +kernel
theorem d8_94 : decode prog_56_method_2_code 94 = .ok (.aload_n 0, 1) := by decide +kernel
theorem d8_95 : decode prog_56_method_2_code 95 = .ok (.getfield 37, 3) := by decide +kernel
theorem d8_98 : decode prog_56_method_2_code 98 = .ok (.iload_n 2, 1) := by decide +kernel
theorem d8_99 : decode prog_56_method_2_code 99 = .ok (.iconst 1, 1) := by decide +kernel
theorem d8_100 : decode prog_56_method_2_code 100 = .ok (.bastore, 1) := by decide +kernel
theorem d8_101 : decode prog_56_method_2_code 101 = .ok (.aload_n 0, 1) := by decide +kernel
theorem d8_102 : decode prog_56_method_2_code 102 = .ok (.getfield 25, 3) := by decide +kernel
theorem d8_105 : decode prog_56_method_2_code 105 = .ok (.iload 5, 2) := by decide +kernel
theorem d8_107 : decode prog_56_method_2_code 107 = .ok (.dup2, 1) := by decide +kernel
theorem d8_108 : decode prog_56_method_2_code 108 = .ok (.iaload, 1) := by decide +kernel
theorem d8_109 : decode prog_56_method_2_code 109 = .ok (.iconst 1, 1) := by decide +kernel
theorem d8_110 : decode prog_56_method_2_code 110 = .ok (.iadd, 1) := by decide +kernel
theorem d8_111 : decode prog_56_method_2_code 111 = .ok (.iastore, 1) := by decide +kernel
theorem d8_112 : decode prog_56_method_2_code 112 = .ok (.iload 4, 2) := by decide +kernel
theorem d8_114 : decode prog_56_method_2_code 114 = .ok (.iload 5, 2) := by decide +kernel
theorem d8_116 : decode prog_56_method_2_code 116 = .ok (.if_icmp .ne 14, 3) := by decide +kernel
theorem d8_119 : decode prog_56_method_2_code 119 = .ok (.aload_n 0, 1) := by decide +kernel
theorem d8_120 : decode prog_56_method_2_code 120 = .ok (.getfield 28, 3) := by decide +kernel
theorem d8_123 : decode prog_56_method_2_code 123 = .ok (.iload 5, 2) := by decide +kernel
theorem d8_125 : decode prog_56_method_2_code 125 = .ok (.dup2, 1) := by decide +kernel
theorem d8_126 : decode prog_56_method_2_code 126 = .ok (.iaload, 1) := by decide +kernel
theorem d8_127 : decode prog_56_method_2_code 127 = .ok (.iconst 1, 1) := by decide +kernel
theorem d8_128 : decode prog_56_method_2_code 128 = .ok (.iadd, 1) := by decide +kernel
theorem d8_129 : decode prog_56_method_2_code 129 = .ok (.iastore, 1) := by decide +kernel
theorem d8_130 : decode prog_56_method_2_code 130 = .ok (.aload_n 0, 1) := by decide +kernel
theorem d8_131 : decode prog_56_method_2_code 131 = .ok (.iload_n 3, 1) := by decide +kernel
theorem d8_132 : decode prog_56_method_2_code 132 = .ok (.invokevirtual 62, 3) := by decide +kernel
theorem d8_135 : decode prog_56_method_2_code 135 = .ok (.return_, 1) := by decide +kernel
theorem ef_8 (m : MethodId) (x0 : Addr) (x1 : Addr) : entryFrame m #[(.ref x0), (.ref x1)] 6 = mkF m 0 #[.val (.ref x0), .val (.ref x1), .unset, .unset, .unset, .unset] [] := by first | (simp [entryFrame, mkF, argsToLocals, Value.category]; done) | rfl
def f8_v38 (w_emptyFrom_a2 : Int32) (w_emptyTo_a2 : Int32) (c_w_al : Nat → Int32) : Nat → Int32 := (ownU c_w_al ((f10 w_emptyFrom_a2)).toNatClampNeg (f11 w_emptyTo_a2))
def f8_A_w_al_39 (w_emptyFrom_a2 : Int32) (w_emptyTo_a2 : Int32) (c_w_al : Nat → Int32) : Nat → Int32 := (if (f10 w_emptyFrom_a2) = (f11 w_emptyTo_a2) then c_w_al else (if (c_w_al ((f10 w_emptyFrom_a2)).toNatClampNeg) < (0 : Int32) then (f8_v38 w_emptyFrom_a2 w_emptyTo_a2 c_w_al) else c_w_al))
def f8_v71 (w_emptyFrom_a2 : Int32) (w_emptyTo_a2 : Int32) (c_w_ol : Nat → Int32) : Nat → Int32 := (ownU c_w_ol ((f10 w_emptyFrom_a2)).toNatClampNeg (f11 w_emptyTo_a2))
def f8_A_w_ol_72 (w_vehicle_a2 : Int32) (w_emptyFrom_a2 : Int32) (w_emptyTo_a2 : Int32) (c_w_ia : Nat → Int32) (c_w_ol : Nat → Int32) : Nat → Int32 := (if (f10 w_emptyFrom_a2) = (f11 w_emptyTo_a2) then c_w_ol else (if (c_w_ia ((f9 w_vehicle_a2)).toNatClampNeg) = (f10 w_emptyFrom_a2) then (if (c_w_ol ((f10 w_emptyFrom_a2)).toNatClampNeg) < (0 : Int32) then (f8_v71 w_emptyFrom_a2 w_emptyTo_a2 c_w_ol) else c_w_ol) else c_w_ol))
def f8_v100 (w_vehicle_a2 : Int32) (c_w_co : Nat → Int32) : Nat → Int32 := (ownU c_w_co ((f9 w_vehicle_a2)).toNatClampNeg (nar .boolean (1 : Int32)))
def f8_v111 (w_vehicle_a2 : Int32) (c_w_ia : Nat → Int32) (c_w_se : Nat → Int32) : Nat → Int32 := (ownU c_w_se ((c_w_ia ((f9 w_vehicle_a2)).toNatClampNeg)).toNatClampNeg ((c_w_se ((c_w_ia ((f9 w_vehicle_a2)).toNatClampNeg)).toNatClampNeg) + (1 : Int32)))
def f8_v129 (w_vehicle_a2 : Int32) (c_w_ia : Nat → Int32) (c_w_sh : Nat → Int32) : Nat → Int32 := (ownU c_w_sh ((c_w_ia ((f9 w_vehicle_a2)).toNatClampNeg)).toNatClampNeg ((c_w_sh ((c_w_ia ((f9 w_vehicle_a2)).toNatClampNeg)).toNatClampNeg) + (1 : Int32)))
def f8_A_w_se_130 (w_vehicle_a2 : Int32) (w_emptyTo_a2 : Int32) (c_w_ia : Nat → Int32) (c_w_se : Nat → Int32) (c_w_co : Nat → Int32) : Nat → Int32 := (if (c_w_ia ((f9 w_vehicle_a2)).toNatClampNeg) < (0 : Int32) then c_w_se else (if (c_w_co ((f9 w_vehicle_a2)).toNatClampNeg) = (0 : Int32) then (if (f11 w_emptyTo_a2) = (c_w_ia ((f9 w_vehicle_a2)).toNatClampNeg) then (f8_v111 w_vehicle_a2 c_w_ia c_w_se) else (f8_v111 w_vehicle_a2 c_w_ia c_w_se)) else c_w_se))
def f8_A_w_sh_130 (w_vehicle_a2 : Int32) (w_emptyTo_a2 : Int32) (c_w_ia : Nat → Int32) (c_w_sh : Nat → Int32) (c_w_co : Nat → Int32) : Nat → Int32 := (if (c_w_ia ((f9 w_vehicle_a2)).toNatClampNeg) < (0 : Int32) then c_w_sh else (if (c_w_co ((f9 w_vehicle_a2)).toNatClampNeg) = (0 : Int32) then (if (f11 w_emptyTo_a2) = (c_w_ia ((f9 w_vehicle_a2)).toNatClampNeg) then (f8_v129 w_vehicle_a2 c_w_ia c_w_sh) else c_w_sh) else c_w_sh))
def f8_A_w_co_130 (w_vehicle_a2 : Int32) (w_emptyTo_a2 : Int32) (c_w_ia : Nat → Int32) (c_w_co : Nat → Int32) : Nat → Int32 := (if (c_w_ia ((f9 w_vehicle_a2)).toNatClampNeg) < (0 : Int32) then c_w_co else (if (c_w_co ((f9 w_vehicle_a2)).toNatClampNeg) = (0 : Int32) then (if (f11 w_emptyTo_a2) = (c_w_ia ((f9 w_vehicle_a2)).toNatClampNeg) then (f8_v100 w_vehicle_a2 c_w_co) else (f8_v100 w_vehicle_a2 c_w_co)) else c_w_co))
def f8_o8 (w_vehicle_a2 : Int32) (w_emptyFrom_a2 : Int32) (w_emptyTo_a2 : Int32) (w_unsettled_a1 : Int32) (z_w_ia : Int32) (c_w_ia : Nat → Int32) (z_w_ic : Int32) (c_w_ic : Nat → Int32) (z_w_op : Int32) (c_w_op : Nat → Int32) (z_w_se : Int32) (c_w_se : Nat → Int32) (z_w_sh : Int32) (c_w_sh : Nat → Int32) (z_w_ol : Int32) (c_w_ol : Nat → Int32) (z_w_al : Int32) (c_w_al : Nat → Int32) (z_w_co : Int32) (c_w_co : Nat → Int32) : Int32 := (f12_o8 (f10 w_emptyFrom_a2) w_unsettled_a1 z_w_sh (f8_A_w_sh_130 w_vehicle_a2 w_emptyTo_a2 c_w_ia c_w_sh c_w_co) z_w_ic c_w_ic z_w_ol (f8_A_w_ol_72 w_vehicle_a2 w_emptyFrom_a2 w_emptyTo_a2 c_w_ia c_w_ol) z_w_se (f8_A_w_se_130 w_vehicle_a2 w_emptyTo_a2 c_w_ia c_w_se c_w_co) z_w_op c_w_op)
def f8_o9 (w_vehicle_a2 : Int32) (w_emptyFrom_a2 : Int32) (w_emptyTo_a2 : Int32) (w_unsettled_a1 : Int32) (z_w_ia : Int32) (c_w_ia : Nat → Int32) (z_w_ic : Int32) (c_w_ic : Nat → Int32) (z_w_op : Int32) (c_w_op : Nat → Int32) (z_w_se : Int32) (c_w_se : Nat → Int32) (z_w_sh : Int32) (c_w_sh : Nat → Int32) (z_w_ol : Int32) (c_w_ol : Nat → Int32) (z_w_al : Int32) (c_w_al : Nat → Int32) (z_w_co : Int32) (c_w_co : Nat → Int32) : Nat → Int32 := (f12_o9 (f10 w_emptyFrom_a2) w_unsettled_a1 z_w_sh (f8_A_w_sh_130 w_vehicle_a2 w_emptyTo_a2 c_w_ia c_w_sh c_w_co) z_w_ic c_w_ic z_w_ol (f8_A_w_ol_72 w_vehicle_a2 w_emptyFrom_a2 w_emptyTo_a2 c_w_ia c_w_ol) z_w_se (f8_A_w_se_130 w_vehicle_a2 w_emptyTo_a2 c_w_ia c_w_se c_w_co) z_w_op c_w_op)
def f8_o10 (w_vehicle_a2 : Int32) (w_emptyFrom_a2 : Int32) (w_emptyTo_a2 : Int32) (w_unsettled_a1 : Int32) (z_w_ia : Int32) (c_w_ia : Nat → Int32) (z_w_ic : Int32) (c_w_ic : Nat → Int32) (z_w_op : Int32) (c_w_op : Nat → Int32) (z_w_se : Int32) (c_w_se : Nat → Int32) (z_w_sh : Int32) (c_w_sh : Nat → Int32) (z_w_ol : Int32) (c_w_ol : Nat → Int32) (z_w_al : Int32) (c_w_al : Nat → Int32) (z_w_co : Int32) (c_w_co : Nat → Int32) : Nat → Int32 := (f8_A_w_se_130 w_vehicle_a2 w_emptyTo_a2 c_w_ia c_w_se c_w_co)
def f8_o11 (w_vehicle_a2 : Int32) (w_emptyFrom_a2 : Int32) (w_emptyTo_a2 : Int32) (w_unsettled_a1 : Int32) (z_w_ia : Int32) (c_w_ia : Nat → Int32) (z_w_ic : Int32) (c_w_ic : Nat → Int32) (z_w_op : Int32) (c_w_op : Nat → Int32) (z_w_se : Int32) (c_w_se : Nat → Int32) (z_w_sh : Int32) (c_w_sh : Nat → Int32) (z_w_ol : Int32) (c_w_ol : Nat → Int32) (z_w_al : Int32) (c_w_al : Nat → Int32) (z_w_co : Int32) (c_w_co : Nat → Int32) : Nat → Int32 := (f8_A_w_sh_130 w_vehicle_a2 w_emptyTo_a2 c_w_ia c_w_sh c_w_co)
def f8_o12 (w_vehicle_a2 : Int32) (w_emptyFrom_a2 : Int32) (w_emptyTo_a2 : Int32) (w_unsettled_a1 : Int32) (z_w_ia : Int32) (c_w_ia : Nat → Int32) (z_w_ic : Int32) (c_w_ic : Nat → Int32) (z_w_op : Int32) (c_w_op : Nat → Int32) (z_w_se : Int32) (c_w_se : Nat → Int32) (z_w_sh : Int32) (c_w_sh : Nat → Int32) (z_w_ol : Int32) (c_w_ol : Nat → Int32) (z_w_al : Int32) (c_w_al : Nat → Int32) (z_w_co : Int32) (c_w_co : Nat → Int32) : Nat → Int32 := (f8_A_w_ol_72 w_vehicle_a2 w_emptyFrom_a2 w_emptyTo_a2 c_w_ia c_w_ol)
def f8_o13 (w_vehicle_a2 : Int32) (w_emptyFrom_a2 : Int32) (w_emptyTo_a2 : Int32) (w_unsettled_a1 : Int32) (z_w_ia : Int32) (c_w_ia : Nat → Int32) (z_w_ic : Int32) (c_w_ic : Nat → Int32) (z_w_op : Int32) (c_w_op : Nat → Int32) (z_w_se : Int32) (c_w_se : Nat → Int32) (z_w_sh : Int32) (c_w_sh : Nat → Int32) (z_w_ol : Int32) (c_w_ol : Nat → Int32) (z_w_al : Int32) (c_w_al : Nat → Int32) (z_w_co : Int32) (c_w_co : Nat → Int32) : Nat → Int32 := (f8_A_w_al_39 w_emptyFrom_a2 w_emptyTo_a2 c_w_al)
def f8_o14 (w_vehicle_a2 : Int32) (w_emptyFrom_a2 : Int32) (w_emptyTo_a2 : Int32) (w_unsettled_a1 : Int32) (z_w_ia : Int32) (c_w_ia : Nat → Int32) (z_w_ic : Int32) (c_w_ic : Nat → Int32) (z_w_op : Int32) (c_w_op : Nat → Int32) (z_w_se : Int32) (c_w_se : Nat → Int32) (z_w_sh : Int32) (c_w_sh : Nat → Int32) (z_w_ol : Int32) (c_w_ol : Nat → Int32) (z_w_al : Int32) (c_w_al : Nat → Int32) (z_w_co : Int32) (c_w_co : Nat → Int32) : Nat → Int32 := (f8_A_w_co_130 w_vehicle_a2 w_emptyTo_a2 c_w_ia c_w_co)
def Q8 (Z : State) (a1 : Addr) (a2 : Addr) (w_vehicle_a2 : Int32) (w_emptyFrom_a2 : Int32) (w_emptyTo_a2 : Int32) (w_ia : Addr) (w_ic : Addr) (w_op : Addr) (w_se : Addr) (w_sh : Addr) (w_ol : Addr) (w_al : Addr) (w_co : Addr) (w_unsettled_a1 : Int32) (z_w_ia : Int32) (c_w_ia : Nat → Int32) (z_w_ic : Int32) (c_w_ic : Nat → Int32) (z_w_op : Int32) (c_w_op : Nat → Int32) (z_w_se : Int32) (c_w_se : Nat → Int32) (z_w_sh : Int32) (c_w_sh : Nat → Int32) (z_w_ol : Int32) (c_w_ol : Nat → Int32) (z_w_al : Int32) (c_w_al : Nat → Int32) (z_w_co : Int32) (c_w_co : Nat → Int32) (h0 : Heap) (n0 : Nat) (v : Option Value) (h : Heap) (L : List Loc) : Prop := v = none ∧ Fr n0 L ∧ Keep h0 h [a1, w_op, w_se, w_sh, w_ol, w_al, w_co] ∧ Fld Z h a1 "com/example/podflow/podflow/simulation/Ballot" "idleAt" "[I" (.ref w_ia) ∧ Fld Z h a1 "com/example/podflow/podflow/simulation/Ballot" "idleCount" "[I" (.ref w_ic) ∧ Fld Z h a1 "com/example/podflow/podflow/simulation/Ballot" "open" "[Z" (.ref w_op) ∧ Fld Z h a1 "com/example/podflow/podflow/simulation/Ballot" "served" "[I" (.ref w_se) ∧ Fld Z h a1 "com/example/podflow/podflow/simulation/Ballot" "servedHome" "[I" (.ref w_sh) ∧ Fld Z h a1 "com/example/podflow/podflow/simulation/Ballot" "ownLeaving" "[I" (.ref w_ol) ∧ Fld Z h a1 "com/example/podflow/podflow/simulation/Ballot" "anyLeaving" "[I" (.ref w_al) ∧ Fld Z h a1 "com/example/podflow/podflow/simulation/Ballot" "counted" "[Z" (.ref w_co) ∧ Fld Z h a1 "com/example/podflow/podflow/simulation/Ballot" "unsettled" "I" (.int (f8_o8 w_vehicle_a2 w_emptyFrom_a2 w_emptyTo_a2 w_unsettled_a1 z_w_ia c_w_ia z_w_ic c_w_ic z_w_op c_w_op z_w_se c_w_se z_w_sh c_w_sh z_w_ol c_w_ol z_w_al c_w_al z_w_co c_w_co)) ∧ IAr Z h w_op .boolean z_w_op (f8_o9 w_vehicle_a2 w_emptyFrom_a2 w_emptyTo_a2 w_unsettled_a1 z_w_ia c_w_ia z_w_ic c_w_ic z_w_op c_w_op z_w_se c_w_se z_w_sh c_w_sh z_w_ol c_w_ol z_w_al c_w_al z_w_co c_w_co) ∧ IAr Z h w_se .int z_w_se (f8_o10 w_vehicle_a2 w_emptyFrom_a2 w_emptyTo_a2 w_unsettled_a1 z_w_ia c_w_ia z_w_ic c_w_ic z_w_op c_w_op z_w_se c_w_se z_w_sh c_w_sh z_w_ol c_w_ol z_w_al c_w_al z_w_co c_w_co) ∧ IAr Z h w_sh .int z_w_sh (f8_o11 w_vehicle_a2 w_emptyFrom_a2 w_emptyTo_a2 w_unsettled_a1 z_w_ia c_w_ia z_w_ic c_w_ic z_w_op c_w_op z_w_se c_w_se z_w_sh c_w_sh z_w_ol c_w_ol z_w_al c_w_al z_w_co c_w_co) ∧ IAr Z h w_ol .int z_w_ol (f8_o12 w_vehicle_a2 w_emptyFrom_a2 w_emptyTo_a2 w_unsettled_a1 z_w_ia c_w_ia z_w_ic c_w_ic z_w_op c_w_op z_w_se c_w_se z_w_sh c_w_sh z_w_ol c_w_ol z_w_al c_w_al z_w_co c_w_co) ∧ IAr Z h w_al .int z_w_al (f8_o13 w_vehicle_a2 w_emptyFrom_a2 w_emptyTo_a2 w_unsettled_a1 z_w_ia c_w_ia z_w_ic c_w_ic z_w_op c_w_op z_w_se c_w_se z_w_sh c_w_sh z_w_ol c_w_ol z_w_al c_w_al z_w_co c_w_co) ∧ IAr Z h w_co .boolean z_w_co (f8_o14 w_vehicle_a2 w_emptyFrom_a2 w_emptyTo_a2 w_unsettled_a1 z_w_ia c_w_ia z_w_ic c_w_ic z_w_op c_w_op z_w_se c_w_se z_w_sh c_w_sh z_w_ol c_w_ol z_w_al c_w_al z_w_co c_w_co)
set_option maxRecDepth 65536 in
set_option maxHeartbeats 40000000 in
theorem rm8 (l : Launch) (Z : State) (a0 : Array Value) (hw : ∀ d ∈ tables_1, d.before a0 Z = true) (ws : List Jvm.Cond) (a1 : Addr) (a2 : Addr) (w_vehicle_a2 : Int32) (w_emptyFrom_a2 : Int32) (w_emptyTo_a2 : Int32) (w_ia : Addr) (w_ic : Addr) (w_op : Addr) (w_se : Addr) (w_sh : Addr) (w_ol : Addr) (w_al : Addr) (w_co : Addr) (w_unsettled_a1 : Int32) (z_w_ia : Int32) (c_w_ia : Nat → Int32) (z_w_ic : Int32) (c_w_ic : Nat → Int32) (z_w_op : Int32) (c_w_op : Nat → Int32) (z_w_se : Int32) (c_w_se : Nat → Int32) (z_w_sh : Int32) (c_w_sh : Nat → Int32) (z_w_ol : Int32) (c_w_ol : Nat → Int32) (z_w_al : Int32) (c_w_al : Nat → Int32) (z_w_co : Int32) (c_w_co : Nat → Int32) (h0 : Heap) (n0 : Nat) (Z0 : n0 ≤ h0.size) (E_a1 : Exa Z h0 a1 "com/example/podflow/podflow/simulation/Ballot") (g_a1 : n0 ≤ a1) (E_a2 : Exa Z h0 a2 "com/example/podflow/podflow/simulation/Pickup") (F_vehicle_a2 : Fld Z h0 a2 "com/example/podflow/podflow/simulation/Pickup" "vehicle" "I" (.int w_vehicle_a2)) (F_emptyFrom_a2 : Fld Z h0 a2 "com/example/podflow/podflow/simulation/Pickup" "emptyFrom" "I" (.int w_emptyFrom_a2)) (F_emptyTo_a2 : Fld Z h0 a2 "com/example/podflow/podflow/simulation/Pickup" "emptyTo" "I" (.int w_emptyTo_a2)) (F_idleAt_a1 : Fld Z h0 a1 "com/example/podflow/podflow/simulation/Ballot" "idleAt" "[I" (.ref w_ia)) (F_idleCount_a1 : Fld Z h0 a1 "com/example/podflow/podflow/simulation/Ballot" "idleCount" "[I" (.ref w_ic)) (F_open_a1 : Fld Z h0 a1 "com/example/podflow/podflow/simulation/Ballot" "open" "[Z" (.ref w_op)) (F_served_a1 : Fld Z h0 a1 "com/example/podflow/podflow/simulation/Ballot" "served" "[I" (.ref w_se)) (F_servedHome_a1 : Fld Z h0 a1 "com/example/podflow/podflow/simulation/Ballot" "servedHome" "[I" (.ref w_sh)) (F_ownLeaving_a1 : Fld Z h0 a1 "com/example/podflow/podflow/simulation/Ballot" "ownLeaving" "[I" (.ref w_ol)) (F_anyLeaving_a1 : Fld Z h0 a1 "com/example/podflow/podflow/simulation/Ballot" "anyLeaving" "[I" (.ref w_al)) (F_counted_a1 : Fld Z h0 a1 "com/example/podflow/podflow/simulation/Ballot" "counted" "[Z" (.ref w_co)) (F_unsettled_a1 : Fld Z h0 a1 "com/example/podflow/podflow/simulation/Ballot" "unsettled" "I" (.int w_unsettled_a1)) (V_w_ia : IAr Z h0 w_ia .int z_w_ia c_w_ia) (V_w_ic : IAr Z h0 w_ic .int z_w_ic c_w_ic) (V_w_op : IAr Z h0 w_op .boolean z_w_op c_w_op) (V_w_se : IAr Z h0 w_se .int z_w_se c_w_se) (V_w_sh : IAr Z h0 w_sh .int z_w_sh c_w_sh) (V_w_ol : IAr Z h0 w_ol .int z_w_ol c_w_ol) (V_w_al : IAr Z h0 w_al .int z_w_al c_w_al) (V_w_co : IAr Z h0 w_co .boolean z_w_co c_w_co) (g_w_op : n0 ≤ w_op) (g_w_se : n0 ≤ w_se) (g_w_sh : n0 ≤ w_sh) (g_w_ol : n0 ≤ w_ol) (g_w_al : n0 ≤ w_al) (g_w_co : n0 ≤ w_co) (ne_a1_w_op : a1 ≠ w_op) (ne_a1_w_se : a1 ≠ w_se) (ne_a1_w_sh : a1 ≠ w_sh) (ne_a1_w_ol : a1 ≠ w_ol) (ne_a1_w_al : a1 ≠ w_al) (ne_a1_w_co : a1 ≠ w_co) (ne_w_op_w_se : w_op ≠ w_se) (ne_w_op_w_sh : w_op ≠ w_sh) (ne_w_op_w_ol : w_op ≠ w_ol) (ne_w_op_w_al : w_op ≠ w_al) (ne_w_op_w_co : w_op ≠ w_co) (ne_w_se_w_sh : w_se ≠ w_sh) (ne_w_se_w_ol : w_se ≠ w_ol) (ne_w_se_w_al : w_se ≠ w_al) (ne_w_se_w_co : w_se ≠ w_co) (ne_w_sh_w_ol : w_sh ≠ w_ol) (ne_w_sh_w_al : w_sh ≠ w_al) (ne_w_sh_w_co : w_sh ≠ w_co) (ne_w_ol_w_al : w_ol ≠ w_al) (ne_w_ol_w_co : w_ol ≠ w_co) (ne_w_al_w_co : w_al ≠ w_co) (ne_w_ia_a1 : w_ia ≠ a1) (ne_w_ia_w_op : w_ia ≠ w_op) (ne_w_ia_w_se : w_ia ≠ w_se) (ne_w_ia_w_sh : w_ia ≠ w_sh) (ne_w_ia_w_ol : w_ia ≠ w_ol) (ne_w_ia_w_al : w_ia ≠ w_al) (ne_w_ia_w_co : w_ia ≠ w_co) (ne_w_ic_a1 : w_ic ≠ a1) (ne_w_ic_w_op : w_ic ≠ w_op) (ne_w_ic_w_se : w_ic ≠ w_se) (ne_w_ic_w_sh : w_ic ≠ w_sh) (ne_w_ic_w_ol : w_ic ≠ w_ol) (ne_w_ic_w_al : w_ic ≠ w_al) (ne_w_ic_w_co : w_ic ≠ w_co) (ne_a2_a1 : a2 ≠ a1) (ne_a2_w_op : a2 ≠ w_op) (ne_a2_w_se : a2 ≠ w_se) (ne_a2_w_sh : a2 ≠ w_sh) (ne_a2_w_ol : a2 ≠ w_ol) (ne_a2_w_al : a2 ≠ w_al) (ne_a2_w_co : a2 ≠ w_co) (hv : 0 ≤ w_vehicle_a2.toInt ∧ w_vehicle_a2.toInt < 3) (hf : 0 ≤ w_emptyFrom_a2.toInt ∧ w_emptyFrom_a2.toInt < 3) (hia : ∀ i, (c_w_ia i).toInt < 3) (hl : z_w_ia = 3 ∧ z_w_ic = 3 ∧ z_w_op = 3 ∧ z_w_se = 3 ∧ z_w_sh = 3 ∧ z_w_ol = 3 ∧ z_w_al = 3 ∧ z_w_co = 3) :
    MetFree l (⟨"com/example/podflow/podflow/simulation/Ballot", "count", "(Lcom/example/podflow/podflow/simulation/Pickup;)V"⟩ : MethodName) (head1 (Jvm.Cond.code (⟨"com/example/podflow/podflow/simulation/Ballot", "count", "(Lcom/example/podflow/podflow/simulation/Pickup;)V"⟩ : MethodName) prog_56_method_2_code 6 none :: ws) ({ frames := 1, cells := 0, slots := 0, locals := 15 } : Room)) (fun a U => a = #[(.ref a1), (.ref a2)] ∧ Z.Warmed39 U.vm ∧ U.heap = h0) (fun _ _ _ _ _ => True) (fun _ U o U' => ∃ v L, o = .returned v ∧ Q8 Z a1 a2 w_vehicle_a2 w_emptyFrom_a2 w_emptyTo_a2 w_ia w_ic w_op w_se w_sh w_ol w_al w_co w_unsettled_a1 z_w_ia c_w_ia z_w_ic c_w_ic z_w_op c_w_op z_w_se c_w_se z_w_sh c_w_sh z_w_ol c_w_ol z_w_al c_w_al z_w_co c_w_co h0 n0 v U'.heap L ∧ FrameEnd U o U' L ({ frames := 1, cells := 0, slots := 0, locals := 15 } : Room).cells ({ frames := 1, cells := 0, slots := 0, locals := 15 } : Room).slots) := by
  refine MetFree.of_bodySF (plainFor_of_name pn_4) hisR ?_
  intro p e s m args below meth c s₁ Bd hml0 hP hK
  obtain ⟨rfl, hZ, hh⟩ := hP
  have hx := Bd.exec
  have hby := Bd.bytes
  have hml : c.maxLocals = 6 := hml0
  have hown : s.vm.findClass "com/example/podflow/podflow/simulation/Ballot" = some m.cls := findClass_of_methodNamed Bd.named
  have hnm := (name_of_methodNamed Bd.named Bd.method).1
  have X0 : Stand p l e ({ frames := 1, cells := 0, slots := 0, locals := 15 } : Room) s m #[(.ref a1), (.ref a2)] below meth c s₁ [] 0 0 := Stand.of_body Bd
  have e0 : s₁.heap = h0 := by rw [← hh, Bd.state]; rfl
  have N0 := Fr.nil n0
  have pre0 : ∀ t, Steps p.tables e below (s₁.setTop (mkF m 0 #[.val (.ref a1), .val (.ref a2), .unset, .unset, .unset, .unset] [])) t → Steps p.tables e below (s₁.setTop (entryFrame m #[(.ref a1), (.ref a2)] 6)) t := fun t k => castTop (ef_8 m a1 a2) k
  obtain ⟨cq3, kq3, q3a, q3b, q3c⟩ := isOf hZ e0 E_a2
  obtain ⟨_, _, ⟨T3, L3, k3, n3⟩, -, X3, ⟨Lc3, hQ3, l3, y3, z3⟩, st3⟩ := X0.virtualBack hx (y := (⟨"com/example/podflow/podflow/simulation/Pickup", "vehicle", "()I"⟩ : MethodName)) (z := (⟨"com/example/podflow/podflow/simulation/Pickup", "vehicle", "()I"⟩ : MethodName)) hown (mvT hZ (hw _ (List.mem_of_getElem? (i := 76) rfl))) (mvT hZ (hw _ (List.mem_of_getElem? (i := 77) rfl))) (notFace_of_selects (args := #[]) (mvT hZ (hw _ (List.mem_of_getElem? (i := 79) rfl)))) (mvT hZ (hw _ (List.mem_of_getElem? (i := 79) rfl))) (mvT hZ (hw _ (List.mem_of_getElem? (i := 78) rfl))) (by decide) (backOf (W := 0) (rm9 l Z a0 hw [] a2 w_vehicle_a2 h0 n0 Z0 F_vehicle_a2) hZ (hw _ (List.mem_of_getElem? (i := 80) rfl)) (hw _ (List.mem_of_getElem? (i := 8) rfl)) (by decide) (by decide)) q3a q3c (g := (mkF m 1 #[.val (.ref a1), .val (.ref a2), .unset, .unset, .unset, .unset] [(.ref a2)])) rfl (by rw [hml]; rfl) (Steps.refl _) (argsL := []) (rest := []) (lenOf pd_2 rfl) rfl (by show 2 * 0 + _ ≤ _; exact Nat.le_of_eq rfl) (hb hby d8_1) (fun _ _ => ⟨rfl, e0, (by decide : 0 + 0 ≤ _), (by decide : 0 + 0 ≤ _)⟩)
  dsimp only [Pt.U, Pt.locs, Pt.cells, Pt.slots] at X3 l3 y3 z3 st3 hQ3
  subst l3 y3 z3
  obtain ⟨rfl, N3q, e3⟩ := hQ3
  have N3 := Fr.app N0 N3q
  obtain ⟨cq4, kq4, q4a, q4b, q4c⟩ := isOf hZ e3 E_a2
  obtain ⟨_, _, ⟨T4, L4, k4, n4⟩, -, X4, ⟨Lc4, hQ4, l4, y4, z4⟩, st4⟩ := X3.virtualBack hx (y := (⟨"com/example/podflow/podflow/simulation/Pickup", "emptyFrom", "()I"⟩ : MethodName)) (z := (⟨"com/example/podflow/podflow/simulation/Pickup", "emptyFrom", "()I"⟩ : MethodName)) hown (mvT hZ (hw _ (List.mem_of_getElem? (i := 81) rfl))) (mvT hZ (hw _ (List.mem_of_getElem? (i := 82) rfl))) (notFace_of_selects (args := #[]) (mvT hZ (hw _ (List.mem_of_getElem? (i := 84) rfl)))) (mvT hZ (hw _ (List.mem_of_getElem? (i := 84) rfl))) (mvT hZ (hw _ (List.mem_of_getElem? (i := 83) rfl))) (by decide) (backOf (W := 0) (rm10 l Z a0 hw [] a2 w_emptyFrom_a2 h0 n0 Z0 F_emptyFrom_a2) hZ (hw _ (List.mem_of_getElem? (i := 85) rfl)) (hw _ (List.mem_of_getElem? (i := 8) rfl)) (by decide) (by decide)) q4a q4c (g := (mkF m 6 #[.val (.ref a1), .val (.ref a2), .val (.int (f9 w_vehicle_a2)), .unset, .unset, .unset] [(.ref a2)])) rfl (by rw [hml]; rfl) (Steps.refl _) (argsL := []) (rest := []) (lenOf pd_2 rfl) rfl (by show 2 * 0 + _ ≤ _; exact Nat.le_of_eq rfl) (hb hby d8_6) (fun _ _ => ⟨rfl, e3, (by decide : 0 + 0 ≤ _), (by decide : 0 + 0 ≤ _)⟩)
  dsimp only [Pt.U, Pt.locs, Pt.cells, Pt.slots] at X4 l4 y4 z4 st4 hQ4
  subst l4 y4 z4
  obtain ⟨rfl, N4q, e4⟩ := hQ4
  have N4 := Fr.app N3 N4q
  obtain ⟨cq5, kq5, q5a, q5b, q5c⟩ := isOf hZ e4 E_a2
  obtain ⟨_, _, ⟨T5, L5, k5, n5⟩, -, X5, ⟨Lc5, hQ5, l5, y5, z5⟩, st5⟩ := X4.virtualBack hx (y := (⟨"com/example/podflow/podflow/simulation/Pickup", "emptyTo", "()I"⟩ : MethodName)) (z := (⟨"com/example/podflow/podflow/simulation/Pickup", "emptyTo", "()I"⟩ : MethodName)) hown (mvT hZ (hw _ (List.mem_of_getElem? (i := 86) rfl))) (mvT hZ (hw _ (List.mem_of_getElem? (i := 87) rfl))) (notFace_of_selects (args := #[]) (mvT hZ (hw _ (List.mem_of_getElem? (i := 89) rfl)))) (mvT hZ (hw _ (List.mem_of_getElem? (i := 89) rfl))) (mvT hZ (hw _ (List.mem_of_getElem? (i := 88) rfl))) (by decide) (backOf (W := 0) (rm11 l Z a0 hw [] a2 w_emptyTo_a2 h0 n0 Z0 F_emptyTo_a2) hZ (hw _ (List.mem_of_getElem? (i := 90) rfl)) (hw _ (List.mem_of_getElem? (i := 8) rfl)) (by decide) (by decide)) q5a q5c (g := (mkF m 11 #[.val (.ref a1), .val (.ref a2), .val (.int (f9 w_vehicle_a2)), .val (.int (f10 w_emptyFrom_a2)), .unset, .unset] [(.ref a2)])) rfl (by rw [hml]; rfl) (Steps.refl _) (argsL := []) (rest := []) (lenOf pd_2 rfl) rfl (by show 2 * 0 + _ ≤ _; exact Nat.le_of_eq rfl) (hb hby d8_11) (fun _ _ => ⟨rfl, e4, (by decide : 0 + 0 ≤ _), (by decide : 0 + 0 ≤ _)⟩)
  dsimp only [Pt.U, Pt.locs, Pt.cells, Pt.slots] at X5 l5 y5 z5 st5 hQ5
  subst l5 y5 z5
  obtain ⟨rfl, N5q, e5⟩ := hQ5
  have N5 := Fr.app N4 N5q
  have pre1 : ∀ t, Steps p.tables e below (T5.setTop (mkF m 19 #[.val (.ref a1), .val (.ref a2), .val (.int (f9 w_vehicle_a2)), .val (.int (f10 w_emptyFrom_a2)), .val (.int (f11 w_emptyTo_a2)), .unset] [(.int (f11 w_emptyTo_a2)), (.int (f10 w_emptyFrom_a2))])) t → Steps p.tables e below (s₁.setTop (entryFrame m #[(.ref a1), (.ref a2)] 6)) t := by
    intro t k
    refine pre0 t ?_
    refine XS.aloadN X0.here hx rfl (hb hby d8_0) rfl rfl ?_
    show Steps p.tables e below (s₁.setTop (mkF m 1 #[.val (.ref a1), .val (.ref a2), .unset, .unset, .unset, .unset] [(.ref a2)])) _
    refine st3.trans ?_
    show Steps p.tables e below (T3.setTop (mkF m 4 #[.val (.ref a1), .val (.ref a2), .unset, .unset, .unset, .unset] [(.int (f9 w_vehicle_a2))])) _
    refine XS.istoreN X3.here hx rfl (hb hby d8_4) rfl (l' := #[.val (.ref a1), .val (.ref a2), .val (.int (f9 w_vehicle_a2)), .unset, .unset, .unset]) rfl ?_
    refine XS.aloadN X3.here hx rfl (hb hby d8_5) rfl rfl ?_
    show Steps p.tables e below (T3.setTop (mkF m 6 #[.val (.ref a1), .val (.ref a2), .val (.int (f9 w_vehicle_a2)), .unset, .unset, .unset] [(.ref a2)])) _
    refine st4.trans ?_
    show Steps p.tables e below (T4.setTop (mkF m 9 #[.val (.ref a1), .val (.ref a2), .val (.int (f9 w_vehicle_a2)), .unset, .unset, .unset] [(.int (f10 w_emptyFrom_a2))])) _
    refine XS.istoreN X4.here hx rfl (hb hby d8_9) rfl (l' := #[.val (.ref a1), .val (.ref a2), .val (.int (f9 w_vehicle_a2)), .val (.int (f10 w_emptyFrom_a2)), .unset, .unset]) rfl ?_
    refine XS.aloadN X4.here hx rfl (hb hby d8_10) rfl rfl ?_
    show Steps p.tables e below (T4.setTop (mkF m 11 #[.val (.ref a1), .val (.ref a2), .val (.int (f9 w_vehicle_a2)), .val (.int (f10 w_emptyFrom_a2)), .unset, .unset] [(.ref a2)])) _
    refine st5.trans ?_
    show Steps p.tables e below (T5.setTop (mkF m 14 #[.val (.ref a1), .val (.ref a2), .val (.int (f9 w_vehicle_a2)), .val (.int (f10 w_emptyFrom_a2)), .unset, .unset] [(.int (f11 w_emptyTo_a2))])) _
    refine XS.istore X5.here hx rfl (hb hby d8_14) rfl (l' := #[.val (.ref a1), .val (.ref a2), .val (.int (f9 w_vehicle_a2)), .val (.int (f10 w_emptyFrom_a2)), .val (.int (f11 w_emptyTo_a2)), .unset]) rfl ?_
    refine XS.iloadN X5.here hx rfl (hb hby d8_16) rfl ?_
    refine XS.iload X5.here hx rfl (hb hby d8_17) rfl ?_
    exact k
  obtain ⟨T58, Lmpre2, h33, X58, e58, N58, c34, c35, c36, c37, c38, c39, c40, c41, c42, c43, c44, c45, c46, c47, c48, c49, c50, c51, c52, c53, c54, c55, c56, c57, pre2⟩ : ∃ (T' : State) (L' : List Loc) (h33 : Heap), Stand p l e ({ frames := 1, cells := 0, slots := 0, locals := 15 } : Room) s m #[(.ref a1), (.ref a2)] below meth c T' L' 0 0 ∧ T'.heap = h33 ∧ Fr n0 L' ∧ n0 ≤ h33.size ∧ Exa Z h33 a1 "com/example/podflow/podflow/simulation/Ballot" ∧ Exa Z h33 a2 "com/example/podflow/podflow/simulation/Pickup" ∧ Fld Z h33 a2 "com/example/podflow/podflow/simulation/Pickup" "vehicle" "I" (.int w_vehicle_a2) ∧ Fld Z h33 a2 "com/example/podflow/podflow/simulation/Pickup" "emptyFrom" "I" (.int w_emptyFrom_a2) ∧ Fld Z h33 a2 "com/example/podflow/podflow/simulation/Pickup" "emptyTo" "I" (.int w_emptyTo_a2) ∧ Fld Z h33 a1 "com/example/podflow/podflow/simulation/Ballot" "idleAt" "[I" (.ref w_ia) ∧ Fld Z h33 a1 "com/example/podflow/podflow/simulation/Ballot" "idleCount" "[I" (.ref w_ic) ∧ Fld Z h33 a1 "com/example/podflow/podflow/simulation/Ballot" "open" "[Z" (.ref w_op) ∧ Fld Z h33 a1 "com/example/podflow/podflow/simulation/Ballot" "served" "[I" (.ref w_se) ∧ Fld Z h33 a1 "com/example/podflow/podflow/simulation/Ballot" "servedHome" "[I" (.ref w_sh) ∧ Fld Z h33 a1 "com/example/podflow/podflow/simulation/Ballot" "ownLeaving" "[I" (.ref w_ol) ∧ Fld Z h33 a1 "com/example/podflow/podflow/simulation/Ballot" "anyLeaving" "[I" (.ref w_al) ∧ Fld Z h33 a1 "com/example/podflow/podflow/simulation/Ballot" "counted" "[Z" (.ref w_co) ∧ Fld Z h33 a1 "com/example/podflow/podflow/simulation/Ballot" "unsettled" "I" (.int w_unsettled_a1) ∧ IAr Z h33 w_ia .int z_w_ia c_w_ia ∧ IAr Z h33 w_ic .int z_w_ic c_w_ic ∧ IAr Z h33 w_op .boolean z_w_op c_w_op ∧ IAr Z h33 w_se .int z_w_se c_w_se ∧ IAr Z h33 w_sh .int z_w_sh c_w_sh ∧ IAr Z h33 w_ol .int z_w_ol c_w_ol ∧ IAr Z h33 w_al .int z_w_al (f8_A_w_al_39 w_emptyFrom_a2 w_emptyTo_a2 c_w_al) ∧ IAr Z h33 w_co .boolean z_w_co c_w_co ∧ Keep h0 h33 [a1, w_op, w_se, w_sh, w_ol, w_al, w_co] ∧ ∀ t, Steps p.tables e below (T'.setTop (mkF m 39 #[.val (.ref a1), .val (.ref a2), .val (.int (f9 w_vehicle_a2)), .val (.int (f10 w_emptyFrom_a2)), .val (.int (f11 w_emptyTo_a2)), .unset] [])) t → Steps p.tables e below (s₁.setTop (entryFrame m #[(.ref a1), (.ref a2)] 6)) t := by
    by_cases hc19 : (f10 w_emptyFrom_a2) = (f11 w_emptyTo_a2)
    · have eq3 := (show (f8_A_w_al_39 w_emptyFrom_a2 w_emptyTo_a2 c_w_al) = c_w_al from by unfold f8_A_w_al_39; simp only [if_pos hc19])
      refine ⟨T5, _, h0, X5, e5, N5, Z0, E_a1, E_a2, F_vehicle_a2, F_emptyFrom_a2, F_emptyTo_a2, F_idleAt_a1, F_idleCount_a1, F_open_a1, F_served_a1, F_servedHome_a1, F_ownLeaving_a1, F_anyLeaving_a1, F_counted_a1, F_unsettled_a1, V_w_ia, V_w_ic, V_w_op, V_w_se, V_w_sh, V_w_ol, (by simp only [eq3]; exact V_w_al), V_w_co, (Keep.refl h0 [a1, w_op, w_se, w_sh, w_ol, w_al, w_co]), fun t k => ?_⟩
      try rw [eq3] at k
      refine pre1 t ?_
      refine XS.icmpYes X5.here hx rfl (pc0 := 19) (pc' := 39) rfl (hb hby d8_19) rfl (teq hc19).1 (by decide) (by decide) ?_
      exact k
    · obtain ⟨T6, X6, e6, st6⟩ := getF X5 hx hZ hown (host := "") (Or.inl (hw _ (List.mem_of_getElem? (i := 56) rfl))) Via.refl e5 F_anyLeaving_a1 (g := (mkF m 23 #[.val (.ref a1), .val (.ref a2), .val (.int (f9 w_vehicle_a2)), .val (.int (f10 w_emptyFrom_a2)), .val (.int (f11 w_emptyTo_a2)), .unset] [(.ref a1)])) rfl rfl (hb hby d8_23)
      have pre4 : ∀ t, Steps p.tables e below (T6.setTop (mkF m 28 #[.val (.ref a1), .val (.ref a2), .val (.int (f9 w_vehicle_a2)), .val (.int (f10 w_emptyFrom_a2)), .val (.int (f11 w_emptyTo_a2)), .unset] [(.int (c_w_al ((f10 w_emptyFrom_a2)).toNatClampNeg))])) t → Steps p.tables e below (s₁.setTop (entryFrame m #[(.ref a1), (.ref a2)] 6)) t := by
        intro t k
        refine pre1 t ?_
        show Steps p.tables e below (T5.setTop (mkF m 19 #[.val (.ref a1), .val (.ref a2), .val (.int (f9 w_vehicle_a2)), .val (.int (f10 w_emptyFrom_a2)), .val (.int (f11 w_emptyTo_a2)), .unset] [(.int (f11 w_emptyTo_a2)), (.int (f10 w_emptyFrom_a2))])) _
        refine XS.icmpNo X5.here hx rfl (hb hby d8_19) rfl (feq hc19).1 ?_
        refine XS.aloadN X5.here hx rfl (hb hby d8_22) rfl rfl ?_
        show Steps p.tables e below (T5.setTop (mkF m 23 #[.val (.ref a1), .val (.ref a2), .val (.int (f9 w_vehicle_a2)), .val (.int (f10 w_emptyFrom_a2)), .val (.int (f11 w_emptyTo_a2)), .unset] [(.ref a1)])) _
        refine st6 _ ?_
        show Steps p.tables e below (T6.setTop (mkF m 26 #[.val (.ref a1), .val (.ref a2), .val (.int (f9 w_vehicle_a2)), .val (.int (f10 w_emptyFrom_a2)), .val (.int (f11 w_emptyTo_a2)), .unset] [(.ref w_al)])) _
        refine XS.iloadN X6.here hx rfl (hb hby d8_26) rfl ?_
        show Steps p.tables e below (T6.setTop (mkF m 27 #[.val (.ref a1), .val (.ref a2), .val (.int (f9 w_vehicle_a2)), .val (.int (f10 w_emptyFrom_a2)), .val (.int (f11 w_emptyTo_a2)), .unset] [(.int (f10 w_emptyFrom_a2)), (.ref w_al)])) _
        refine ldI X6 hx hZ e6 V_w_al (j := (f10 w_emptyFrom_a2)) (own_i3 hf hl.2.2.2.2.2.2.1) (g := (mkF m 27 #[.val (.ref a1), .val (.ref a2), .val (.int (f9 w_vehicle_a2)), .val (.int (f10 w_emptyFrom_a2)), .val (.int (f11 w_emptyTo_a2)), .unset] [(.int (f10 w_emptyFrom_a2)), (.ref w_al)])) rfl rfl (hb hby d8_27) ?_
        exact k
      by_cases hc28 : (c_w_al ((f10 w_emptyFrom_a2)).toNatClampNeg) < (0 : Int32)
      · obtain ⟨T7, X7, e7, st7⟩ := getF X6 hx hZ hown (host := "") (Or.inl (hw _ (List.mem_of_getElem? (i := 56) rfl))) Via.refl e6 F_anyLeaving_a1 (g := (mkF m 32 #[.val (.ref a1), .val (.ref a2), .val (.int (f9 w_vehicle_a2)), .val (.int (f10 w_emptyFrom_a2)), .val (.int (f11 w_emptyTo_a2)), .unset] [(.ref a1)])) rfl rfl (hb hby d8_32)
        obtain ⟨T8, h8, X8, e8, W8, V8, st8⟩ := sI X7 hx hZ e7 V_w_al (j := (f10 w_emptyFrom_a2)) (own_i3 hf hl.2.2.2.2.2.2.1) (g := (mkF m 38 #[.val (.ref a1), .val (.ref a2), .val (.int (f9 w_vehicle_a2)), .val (.int (f10 w_emptyFrom_a2)), .val (.int (f11 w_emptyTo_a2)), .unset] [(.int (f11 w_emptyTo_a2)), (.int (f10 w_emptyFrom_a2)), (.ref w_al)])) rfl rfl (hb hby d8_38)
        have N8 := Fr.snoc X8 N5 g_w_al
        have c9 : n0 ≤ h8.size := Nat.le_trans Z0 (Keep.of_wr W8).1
        have c10 : Exa Z h8 a1 "com/example/podflow/podflow/simulation/Ballot" := E_a1.wr W8
        have c11 : Exa Z h8 a2 "com/example/podflow/podflow/simulation/Pickup" := E_a2.wr W8
        have c12 : Fld Z h8 a2 "com/example/podflow/podflow/simulation/Pickup" "vehicle" "I" (.int w_vehicle_a2) := F_vehicle_a2.other W8 (Or.inl ne_a2_w_al)
        have c13 : Fld Z h8 a2 "com/example/podflow/podflow/simulation/Pickup" "emptyFrom" "I" (.int w_emptyFrom_a2) := F_emptyFrom_a2.other W8 (Or.inl ne_a2_w_al)
        have c14 : Fld Z h8 a2 "com/example/podflow/podflow/simulation/Pickup" "emptyTo" "I" (.int w_emptyTo_a2) := F_emptyTo_a2.other W8 (Or.inl ne_a2_w_al)
        have c15 : Fld Z h8 a1 "com/example/podflow/podflow/simulation/Ballot" "idleAt" "[I" (.ref w_ia) := F_idleAt_a1.other W8 (Or.inl ne_a1_w_al)
        have c16 : Fld Z h8 a1 "com/example/podflow/podflow/simulation/Ballot" "idleCount" "[I" (.ref w_ic) := F_idleCount_a1.other W8 (Or.inl ne_a1_w_al)
        have c17 : Fld Z h8 a1 "com/example/podflow/podflow/simulation/Ballot" "open" "[Z" (.ref w_op) := F_open_a1.other W8 (Or.inl ne_a1_w_al)
        have c18 : Fld Z h8 a1 "com/example/podflow/podflow/simulation/Ballot" "served" "[I" (.ref w_se) := F_served_a1.other W8 (Or.inl ne_a1_w_al)
        have c19 : Fld Z h8 a1 "com/example/podflow/podflow/simulation/Ballot" "servedHome" "[I" (.ref w_sh) := F_servedHome_a1.other W8 (Or.inl ne_a1_w_al)
        have c20 : Fld Z h8 a1 "com/example/podflow/podflow/simulation/Ballot" "ownLeaving" "[I" (.ref w_ol) := F_ownLeaving_a1.other W8 (Or.inl ne_a1_w_al)
        have c21 : Fld Z h8 a1 "com/example/podflow/podflow/simulation/Ballot" "anyLeaving" "[I" (.ref w_al) := F_anyLeaving_a1.other W8 (Or.inl ne_a1_w_al)
        have c22 : Fld Z h8 a1 "com/example/podflow/podflow/simulation/Ballot" "counted" "[Z" (.ref w_co) := F_counted_a1.other W8 (Or.inl ne_a1_w_al)
        have c23 : Fld Z h8 a1 "com/example/podflow/podflow/simulation/Ballot" "unsettled" "I" (.int w_unsettled_a1) := F_unsettled_a1.other W8 (Or.inl ne_a1_w_al)
        have c24 : IAr Z h8 w_ia .int z_w_ia c_w_ia := V_w_ia.other W8 ne_w_ia_w_al
        have c25 : IAr Z h8 w_ic .int z_w_ic c_w_ic := V_w_ic.other W8 ne_w_ic_w_al
        have c26 : IAr Z h8 w_op .boolean z_w_op c_w_op := V_w_op.other W8 ne_w_op_w_al
        have c27 : IAr Z h8 w_se .int z_w_se c_w_se := V_w_se.other W8 ne_w_se_w_al
        have c28 : IAr Z h8 w_sh .int z_w_sh c_w_sh := V_w_sh.other W8 ne_w_sh_w_al
        have c29 : IAr Z h8 w_ol .int z_w_ol c_w_ol := V_w_ol.other W8 ne_w_ol_w_al
        have c30 : IAr Z h8 w_al .int z_w_al (f8_v38 w_emptyFrom_a2 w_emptyTo_a2 c_w_al) := V8
        have c31 : IAr Z h8 w_co .boolean z_w_co c_w_co := V_w_co.other W8 (Ne.symm ne_w_al_w_co)
        have c32 : Keep h0 h8 [a1, w_op, w_se, w_sh, w_ol, w_al, w_co] := (Keep.refl h0 [a1, w_op, w_se, w_sh, w_ol, w_al, w_co]).wr W8 (Or.inl (List.mem_of_getElem? (i := 5) rfl))
        have eq5 := (show (f8_A_w_al_39 w_emptyFrom_a2 w_emptyTo_a2 c_w_al) = (f8_v38 w_emptyFrom_a2 w_emptyTo_a2 c_w_al) from by unfold f8_A_w_al_39; simp only [if_neg hc19, if_pos hc28])
        refine ⟨T8, _, h8, X8, e8, N8, c9, c10, c11, c12, c13, c14, c15, c16, c17, c18, c19, c20, c21, c22, c23, c24, c25, c26, c27, c28, c29, (by simp only [eq5]; exact c30), c31, c32, fun t k => ?_⟩
        try rw [eq5] at k
        refine pre4 t ?_
        refine XS.ifNo X6.here hx rfl (hb hby d8_28) rfl ((if0 _ _).trans (tlt hc28).2.1) ?_
        refine XS.aloadN X6.here hx rfl (hb hby d8_31) rfl rfl ?_
        show Steps p.tables e below (T6.setTop (mkF m 32 #[.val (.ref a1), .val (.ref a2), .val (.int (f9 w_vehicle_a2)), .val (.int (f10 w_emptyFrom_a2)), .val (.int (f11 w_emptyTo_a2)), .unset] [(.ref a1)])) _
        refine st7 _ ?_
        show Steps p.tables e below (T7.setTop (mkF m 35 #[.val (.ref a1), .val (.ref a2), .val (.int (f9 w_vehicle_a2)), .val (.int (f10 w_emptyFrom_a2)), .val (.int (f11 w_emptyTo_a2)), .unset] [(.ref w_al)])) _
        refine XS.iloadN X7.here hx rfl (hb hby d8_35) rfl ?_
        refine XS.iload X7.here hx rfl (hb hby d8_36) rfl ?_
        show Steps p.tables e below (T7.setTop (mkF m 38 #[.val (.ref a1), .val (.ref a2), .val (.int (f9 w_vehicle_a2)), .val (.int (f10 w_emptyFrom_a2)), .val (.int (f11 w_emptyTo_a2)), .unset] [(.int (f11 w_emptyTo_a2)), (.int (f10 w_emptyFrom_a2)), (.ref w_al)])) _
        refine st8 _ ?_
        exact k
      · have eq6 := (show (f8_A_w_al_39 w_emptyFrom_a2 w_emptyTo_a2 c_w_al) = c_w_al from by unfold f8_A_w_al_39; simp only [if_neg hc19, if_neg hc28])
        refine ⟨T6, _, h0, X6, e6, N5, Z0, E_a1, E_a2, F_vehicle_a2, F_emptyFrom_a2, F_emptyTo_a2, F_idleAt_a1, F_idleCount_a1, F_open_a1, F_served_a1, F_servedHome_a1, F_ownLeaving_a1, F_anyLeaving_a1, F_counted_a1, F_unsettled_a1, V_w_ia, V_w_ic, V_w_op, V_w_se, V_w_sh, V_w_ol, (by simp only [eq6]; exact V_w_al), V_w_co, (Keep.refl h0 [a1, w_op, w_se, w_sh, w_ol, w_al, w_co]), fun t k => ?_⟩
        try rw [eq6] at k
        refine pre4 t ?_
        refine XS.ifYes X6.here hx rfl (pc0 := 28) (pc' := 39) rfl (hb hby d8_28) rfl ((if0 _ _).trans (flt hc28).2.1) (by decide) (by decide) ?_
        exact k
  have pre7 : ∀ t, Steps p.tables e below (T58.setTop (mkF m 42 #[.val (.ref a1), .val (.ref a2), .val (.int (f9 w_vehicle_a2)), .val (.int (f10 w_emptyFrom_a2)), .val (.int (f11 w_emptyTo_a2)), .unset] [(.int (f11 w_emptyTo_a2)), (.int (f10 w_emptyFrom_a2))])) t → Steps p.tables e below (s₁.setTop (entryFrame m #[(.ref a1), (.ref a2)] 6)) t := by
    intro t k
    refine pre2 t ?_
    refine XS.iloadN X58.here hx rfl (hb hby d8_39) rfl ?_
    refine XS.iload X58.here hx rfl (hb hby d8_40) rfl ?_
    exact k
  obtain ⟨T112, Lmpre8, h87, X112, e112, N112, c88, c89, c90, c91, c92, c93, c94, c95, c96, c97, c98, c99, c100, c101, c102, c103, c104, c105, c106, c107, c108, c109, c110, c111, pre8⟩ : ∃ (T' : State) (L' : List Loc) (h87 : Heap), Stand p l e ({ frames := 1, cells := 0, slots := 0, locals := 15 } : Room) s m #[(.ref a1), (.ref a2)] below meth c T' L' 0 0 ∧ T'.heap = h87 ∧ Fr n0 L' ∧ n0 ≤ h87.size ∧ Exa Z h87 a1 "com/example/podflow/podflow/simulation/Ballot" ∧ Exa Z h87 a2 "com/example/podflow/podflow/simulation/Pickup" ∧ Fld Z h87 a2 "com/example/podflow/podflow/simulation/Pickup" "vehicle" "I" (.int w_vehicle_a2) ∧ Fld Z h87 a2 "com/example/podflow/podflow/simulation/Pickup" "emptyFrom" "I" (.int w_emptyFrom_a2) ∧ Fld Z h87 a2 "com/example/podflow/podflow/simulation/Pickup" "emptyTo" "I" (.int w_emptyTo_a2) ∧ Fld Z h87 a1 "com/example/podflow/podflow/simulation/Ballot" "idleAt" "[I" (.ref w_ia) ∧ Fld Z h87 a1 "com/example/podflow/podflow/simulation/Ballot" "idleCount" "[I" (.ref w_ic) ∧ Fld Z h87 a1 "com/example/podflow/podflow/simulation/Ballot" "open" "[Z" (.ref w_op) ∧ Fld Z h87 a1 "com/example/podflow/podflow/simulation/Ballot" "served" "[I" (.ref w_se) ∧ Fld Z h87 a1 "com/example/podflow/podflow/simulation/Ballot" "servedHome" "[I" (.ref w_sh) ∧ Fld Z h87 a1 "com/example/podflow/podflow/simulation/Ballot" "ownLeaving" "[I" (.ref w_ol) ∧ Fld Z h87 a1 "com/example/podflow/podflow/simulation/Ballot" "anyLeaving" "[I" (.ref w_al) ∧ Fld Z h87 a1 "com/example/podflow/podflow/simulation/Ballot" "counted" "[Z" (.ref w_co) ∧ Fld Z h87 a1 "com/example/podflow/podflow/simulation/Ballot" "unsettled" "I" (.int w_unsettled_a1) ∧ IAr Z h87 w_ia .int z_w_ia c_w_ia ∧ IAr Z h87 w_ic .int z_w_ic c_w_ic ∧ IAr Z h87 w_op .boolean z_w_op c_w_op ∧ IAr Z h87 w_se .int z_w_se c_w_se ∧ IAr Z h87 w_sh .int z_w_sh c_w_sh ∧ IAr Z h87 w_ol .int z_w_ol (f8_A_w_ol_72 w_vehicle_a2 w_emptyFrom_a2 w_emptyTo_a2 c_w_ia c_w_ol) ∧ IAr Z h87 w_al .int z_w_al (f8_A_w_al_39 w_emptyFrom_a2 w_emptyTo_a2 c_w_al) ∧ IAr Z h87 w_co .boolean z_w_co c_w_co ∧ Keep h0 h87 [a1, w_op, w_se, w_sh, w_ol, w_al, w_co] ∧ ∀ t, Steps p.tables e below (T'.setTop (mkF m 72 #[.val (.ref a1), .val (.ref a2), .val (.int (f9 w_vehicle_a2)), .val (.int (f10 w_emptyFrom_a2)), .val (.int (f11 w_emptyTo_a2)), .unset] [])) t → Steps p.tables e below (s₁.setTop (entryFrame m #[(.ref a1), (.ref a2)] 6)) t := by
    by_cases hc42 : (f10 w_emptyFrom_a2) = (f11 w_emptyTo_a2)
    · have eq9 := (show (f8_A_w_ol_72 w_vehicle_a2 w_emptyFrom_a2 w_emptyTo_a2 c_w_ia c_w_ol) = c_w_ol from by unfold f8_A_w_ol_72; simp only [if_pos hc42])
      refine ⟨T58, _, h33, X58, e58, N58, c34, c35, c36, c37, c38, c39, c40, c41, c42, c43, c44, c45, c46, c47, c48, c49, c50, c51, c52, c53, (by simp only [eq9]; exact c54), c55, c56, c57, fun t k => ?_⟩
      try rw [eq9] at k
      refine pre7 t ?_
      show Steps p.tables e below (T58.setTop (mkF m 42 #[.val (.ref a1), .val (.ref a2), .val (.int (f9 w_vehicle_a2)), .val (.int (f10 w_emptyFrom_a2)), .val (.int (f11 w_emptyTo_a2)), .unset] [(.int (f11 w_emptyTo_a2)), (.int (f10 w_emptyFrom_a2))])) _
      refine XS.icmpYes X58.here hx rfl (pc0 := 42) (pc' := 72) rfl (hb hby d8_42) rfl (teq hc42).1 (by decide) (by decide) ?_
      exact k
    · obtain ⟨T59, X59, e59, st59⟩ := getF X58 hx hZ hown (host := "") (Or.inl (hw _ (List.mem_of_getElem? (i := 35) rfl))) Via.refl e58 c40 (g := (mkF m 46 #[.val (.ref a1), .val (.ref a2), .val (.int (f9 w_vehicle_a2)), .val (.int (f10 w_emptyFrom_a2)), .val (.int (f11 w_emptyTo_a2)), .unset] [(.ref a1)])) rfl rfl (hb hby d8_46)
      have pre10 : ∀ t, Steps p.tables e below (T59.setTop (mkF m 52 #[.val (.ref a1), .val (.ref a2), .val (.int (f9 w_vehicle_a2)), .val (.int (f10 w_emptyFrom_a2)), .val (.int (f11 w_emptyTo_a2)), .unset] [(.int (f10 w_emptyFrom_a2)), (.int (c_w_ia ((f9 w_vehicle_a2)).toNatClampNeg))])) t → Steps p.tables e below (s₁.setTop (entryFrame m #[(.ref a1), (.ref a2)] 6)) t := by
        intro t k
        refine pre7 t ?_
        refine XS.icmpNo X58.here hx rfl (hb hby d8_42) rfl (feq hc42).1 ?_
        refine XS.aloadN X58.here hx rfl (hb hby d8_45) rfl rfl ?_
        show Steps p.tables e below (T58.setTop (mkF m 46 #[.val (.ref a1), .val (.ref a2), .val (.int (f9 w_vehicle_a2)), .val (.int (f10 w_emptyFrom_a2)), .val (.int (f11 w_emptyTo_a2)), .unset] [(.ref a1)])) _
        refine st59 _ ?_
        show Steps p.tables e below (T59.setTop (mkF m 49 #[.val (.ref a1), .val (.ref a2), .val (.int (f9 w_vehicle_a2)), .val (.int (f10 w_emptyFrom_a2)), .val (.int (f11 w_emptyTo_a2)), .unset] [(.ref w_ia)])) _
        refine XS.iloadN X59.here hx rfl (hb hby d8_49) rfl ?_
        show Steps p.tables e below (T59.setTop (mkF m 50 #[.val (.ref a1), .val (.ref a2), .val (.int (f9 w_vehicle_a2)), .val (.int (f10 w_emptyFrom_a2)), .val (.int (f11 w_emptyTo_a2)), .unset] [(.int (f9 w_vehicle_a2)), (.ref w_ia)])) _
        refine ldI X59 hx hZ e59 c49 (j := (f9 w_vehicle_a2)) (own_i3 hv hl.1) (g := (mkF m 50 #[.val (.ref a1), .val (.ref a2), .val (.int (f9 w_vehicle_a2)), .val (.int (f10 w_emptyFrom_a2)), .val (.int (f11 w_emptyTo_a2)), .unset] [(.int (f9 w_vehicle_a2)), (.ref w_ia)])) rfl rfl (hb hby d8_50) ?_
        show Steps p.tables e below (T59.setTop (mkF m 51 #[.val (.ref a1), .val (.ref a2), .val (.int (f9 w_vehicle_a2)), .val (.int (f10 w_emptyFrom_a2)), .val (.int (f11 w_emptyTo_a2)), .unset] [(.int (c_w_ia ((f9 w_vehicle_a2)).toNatClampNeg))])) _
        refine XS.iloadN X59.here hx rfl (hb hby d8_51) rfl ?_
        exact k
      by_cases hc52 : (c_w_ia ((f9 w_vehicle_a2)).toNatClampNeg) = (f10 w_emptyFrom_a2)
      · obtain ⟨T60, X60, e60, st60⟩ := getF X59 hx hZ hown (host := "") (Or.inl (hw _ (List.mem_of_getElem? (i := 54) rfl))) Via.refl e59 c45 (g := (mkF m 56 #[.val (.ref a1), .val (.ref a2), .val (.int (f9 w_vehicle_a2)), .val (.int (f10 w_emptyFrom_a2)), .val (.int (f11 w_emptyTo_a2)), .unset] [(.ref a1)])) rfl rfl (hb hby d8_56)
        have pre11 : ∀ t, Steps p.tables e below (T60.setTop (mkF m 61 #[.val (.ref a1), .val (.ref a2), .val (.int (f9 w_vehicle_a2)), .val (.int (f10 w_emptyFrom_a2)), .val (.int (f11 w_emptyTo_a2)), .unset] [(.int (c_w_ol ((f10 w_emptyFrom_a2)).toNatClampNeg))])) t → Steps p.tables e below (s₁.setTop (entryFrame m #[(.ref a1), (.ref a2)] 6)) t := by
          intro t k
          refine pre10 t ?_
          refine XS.icmpNo X59.here hx rfl (hb hby d8_52) rfl (teq hc52).2 ?_
          refine XS.aloadN X59.here hx rfl (hb hby d8_55) rfl rfl ?_
          show Steps p.tables e below (T59.setTop (mkF m 56 #[.val (.ref a1), .val (.ref a2), .val (.int (f9 w_vehicle_a2)), .val (.int (f10 w_emptyFrom_a2)), .val (.int (f11 w_emptyTo_a2)), .unset] [(.ref a1)])) _
          refine st60 _ ?_
          show Steps p.tables e below (T60.setTop (mkF m 59 #[.val (.ref a1), .val (.ref a2), .val (.int (f9 w_vehicle_a2)), .val (.int (f10 w_emptyFrom_a2)), .val (.int (f11 w_emptyTo_a2)), .unset] [(.ref w_ol)])) _
          refine XS.iloadN X60.here hx rfl (hb hby d8_59) rfl ?_
          show Steps p.tables e below (T60.setTop (mkF m 60 #[.val (.ref a1), .val (.ref a2), .val (.int (f9 w_vehicle_a2)), .val (.int (f10 w_emptyFrom_a2)), .val (.int (f11 w_emptyTo_a2)), .unset] [(.int (f10 w_emptyFrom_a2)), (.ref w_ol)])) _
          refine ldI X60 hx hZ e60 c54 (j := (f10 w_emptyFrom_a2)) (own_i3 hf hl.2.2.2.2.2.1) (g := (mkF m 60 #[.val (.ref a1), .val (.ref a2), .val (.int (f9 w_vehicle_a2)), .val (.int (f10 w_emptyFrom_a2)), .val (.int (f11 w_emptyTo_a2)), .unset] [(.int (f10 w_emptyFrom_a2)), (.ref w_ol)])) rfl rfl (hb hby d8_60) ?_
          exact k
        by_cases hc61 : (c_w_ol ((f10 w_emptyFrom_a2)).toNatClampNeg) < (0 : Int32)
        · obtain ⟨T61, X61, e61, st61⟩ := getF X60 hx hZ hown (host := "") (Or.inl (hw _ (List.mem_of_getElem? (i := 54) rfl))) Via.refl e60 c45 (g := (mkF m 65 #[.val (.ref a1), .val (.ref a2), .val (.int (f9 w_vehicle_a2)), .val (.int (f10 w_emptyFrom_a2)), .val (.int (f11 w_emptyTo_a2)), .unset] [(.ref a1)])) rfl rfl (hb hby d8_65)
          obtain ⟨T62, h62, X62, e62, W62, V62, st62⟩ := sI X61 hx hZ e61 c54 (j := (f10 w_emptyFrom_a2)) (own_i3 hf hl.2.2.2.2.2.1) (g := (mkF m 71 #[.val (.ref a1), .val (.ref a2), .val (.int (f9 w_vehicle_a2)), .val (.int (f10 w_emptyFrom_a2)), .val (.int (f11 w_emptyTo_a2)), .unset] [(.int (f11 w_emptyTo_a2)), (.int (f10 w_emptyFrom_a2)), (.ref w_ol)])) rfl rfl (hb hby d8_71)
          have N62 := Fr.snoc X62 N58 g_w_ol
          have c63 : n0 ≤ h62.size := Nat.le_trans c34 (Keep.of_wr W62).1
          have c64 : Exa Z h62 a1 "com/example/podflow/podflow/simulation/Ballot" := c35.wr W62
          have c65 : Exa Z h62 a2 "com/example/podflow/podflow/simulation/Pickup" := c36.wr W62
          have c66 : Fld Z h62 a2 "com/example/podflow/podflow/simulation/Pickup" "vehicle" "I" (.int w_vehicle_a2) := c37.other W62 (Or.inl ne_a2_w_ol)
          have c67 : Fld Z h62 a2 "com/example/podflow/podflow/simulation/Pickup" "emptyFrom" "I" (.int w_emptyFrom_a2) := c38.other W62 (Or.inl ne_a2_w_ol)
          have c68 : Fld Z h62 a2 "com/example/podflow/podflow/simulation/Pickup" "emptyTo" "I" (.int w_emptyTo_a2) := c39.other W62 (Or.inl ne_a2_w_ol)
          have c69 : Fld Z h62 a1 "com/example/podflow/podflow/simulation/Ballot" "idleAt" "[I" (.ref w_ia) := c40.other W62 (Or.inl ne_a1_w_ol)
          have c70 : Fld Z h62 a1 "com/example/podflow/podflow/simulation/Ballot" "idleCount" "[I" (.ref w_ic) := c41.other W62 (Or.inl ne_a1_w_ol)
          have c71 : Fld Z h62 a1 "com/example/podflow/podflow/simulation/Ballot" "open" "[Z" (.ref w_op) := c42.other W62 (Or.inl ne_a1_w_ol)
          have c72 : Fld Z h62 a1 "com/example/podflow/podflow/simulation/Ballot" "served" "[I" (.ref w_se) := c43.other W62 (Or.inl ne_a1_w_ol)
          have c73 : Fld Z h62 a1 "com/example/podflow/podflow/simulation/Ballot" "servedHome" "[I" (.ref w_sh) := c44.other W62 (Or.inl ne_a1_w_ol)
          have c74 : Fld Z h62 a1 "com/example/podflow/podflow/simulation/Ballot" "ownLeaving" "[I" (.ref w_ol) := c45.other W62 (Or.inl ne_a1_w_ol)
          have c75 : Fld Z h62 a1 "com/example/podflow/podflow/simulation/Ballot" "anyLeaving" "[I" (.ref w_al) := c46.other W62 (Or.inl ne_a1_w_ol)
          have c76 : Fld Z h62 a1 "com/example/podflow/podflow/simulation/Ballot" "counted" "[Z" (.ref w_co) := c47.other W62 (Or.inl ne_a1_w_ol)
          have c77 : Fld Z h62 a1 "com/example/podflow/podflow/simulation/Ballot" "unsettled" "I" (.int w_unsettled_a1) := c48.other W62 (Or.inl ne_a1_w_ol)
          have c78 : IAr Z h62 w_ia .int z_w_ia c_w_ia := c49.other W62 ne_w_ia_w_ol
          have c79 : IAr Z h62 w_ic .int z_w_ic c_w_ic := c50.other W62 ne_w_ic_w_ol
          have c80 : IAr Z h62 w_op .boolean z_w_op c_w_op := c51.other W62 ne_w_op_w_ol
          have c81 : IAr Z h62 w_se .int z_w_se c_w_se := c52.other W62 ne_w_se_w_ol
          have c82 : IAr Z h62 w_sh .int z_w_sh c_w_sh := c53.other W62 ne_w_sh_w_ol
          have c83 : IAr Z h62 w_ol .int z_w_ol (f8_v71 w_emptyFrom_a2 w_emptyTo_a2 c_w_ol) := V62
          have c84 : IAr Z h62 w_al .int z_w_al (f8_A_w_al_39 w_emptyFrom_a2 w_emptyTo_a2 c_w_al) := c55.other W62 (Ne.symm ne_w_ol_w_al)
          have c85 : IAr Z h62 w_co .boolean z_w_co c_w_co := c56.other W62 (Ne.symm ne_w_ol_w_co)
          have c86 : Keep h0 h62 [a1, w_op, w_se, w_sh, w_ol, w_al, w_co] := c57.wr W62 (Or.inl (List.mem_of_getElem? (i := 4) rfl))
          have eq12 := (show (f8_A_w_ol_72 w_vehicle_a2 w_emptyFrom_a2 w_emptyTo_a2 c_w_ia c_w_ol) = (f8_v71 w_emptyFrom_a2 w_emptyTo_a2 c_w_ol) from by unfold f8_A_w_ol_72; simp only [if_neg hc42, if_pos hc52, if_pos hc61])
          refine ⟨T62, _, h62, X62, e62, N62, c63, c64, c65, c66, c67, c68, c69, c70, c71, c72, c73, c74, c75, c76, c77, c78, c79, c80, c81, c82, (by simp only [eq12]; exact c83), c84, c85, c86, fun t k => ?_⟩
          try rw [eq12] at k
          refine pre11 t ?_
          refine XS.ifNo X60.here hx rfl (hb hby d8_61) rfl ((if0 _ _).trans (tlt hc61).2.1) ?_
          refine XS.aloadN X60.here hx rfl (hb hby d8_64) rfl rfl ?_
          show Steps p.tables e below (T60.setTop (mkF m 65 #[.val (.ref a1), .val (.ref a2), .val (.int (f9 w_vehicle_a2)), .val (.int (f10 w_emptyFrom_a2)), .val (.int (f11 w_emptyTo_a2)), .unset] [(.ref a1)])) _
          refine st61 _ ?_
          show Steps p.tables e below (T61.setTop (mkF m 68 #[.val (.ref a1), .val (.ref a2), .val (.int (f9 w_vehicle_a2)), .val (.int (f10 w_emptyFrom_a2)), .val (.int (f11 w_emptyTo_a2)), .unset] [(.ref w_ol)])) _
          refine XS.iloadN X61.here hx rfl (hb hby d8_68) rfl ?_
          refine XS.iload X61.here hx rfl (hb hby d8_69) rfl ?_
          show Steps p.tables e below (T61.setTop (mkF m 71 #[.val (.ref a1), .val (.ref a2), .val (.int (f9 w_vehicle_a2)), .val (.int (f10 w_emptyFrom_a2)), .val (.int (f11 w_emptyTo_a2)), .unset] [(.int (f11 w_emptyTo_a2)), (.int (f10 w_emptyFrom_a2)), (.ref w_ol)])) _
          refine st62 _ ?_
          exact k
        · have eq13 := (show (f8_A_w_ol_72 w_vehicle_a2 w_emptyFrom_a2 w_emptyTo_a2 c_w_ia c_w_ol) = c_w_ol from by unfold f8_A_w_ol_72; simp only [if_neg hc42, if_pos hc52, if_neg hc61])
          refine ⟨T60, _, h33, X60, e60, N58, c34, c35, c36, c37, c38, c39, c40, c41, c42, c43, c44, c45, c46, c47, c48, c49, c50, c51, c52, c53, (by simp only [eq13]; exact c54), c55, c56, c57, fun t k => ?_⟩
          try rw [eq13] at k
          refine pre11 t ?_
          refine XS.ifYes X60.here hx rfl (pc0 := 61) (pc' := 72) rfl (hb hby d8_61) rfl ((if0 _ _).trans (flt hc61).2.1) (by decide) (by decide) ?_
          exact k
      · have eq14 := (show (f8_A_w_ol_72 w_vehicle_a2 w_emptyFrom_a2 w_emptyTo_a2 c_w_ia c_w_ol) = c_w_ol from by unfold f8_A_w_ol_72; simp only [if_neg hc42, if_neg hc52])
        refine ⟨T59, _, h33, X59, e59, N58, c34, c35, c36, c37, c38, c39, c40, c41, c42, c43, c44, c45, c46, c47, c48, c49, c50, c51, c52, c53, (by simp only [eq14]; exact c54), c55, c56, c57, fun t k => ?_⟩
        try rw [eq14] at k
        refine pre10 t ?_
        refine XS.icmpYes X59.here hx rfl (pc0 := 52) (pc' := 72) rfl (hb hby d8_52) rfl (feq hc52).2 (by decide) (by decide) ?_
        exact k
  obtain ⟨T113, X113, e113, st113⟩ := getF X112 hx hZ hown (host := "") (Or.inl (hw _ (List.mem_of_getElem? (i := 35) rfl))) Via.refl e112 c94 (g := (mkF m 73 #[.val (.ref a1), .val (.ref a2), .val (.int (f9 w_vehicle_a2)), .val (.int (f10 w_emptyFrom_a2)), .val (.int (f11 w_emptyTo_a2)), .unset] [(.ref a1)])) rfl rfl (hb hby d8_73)
  have pre15 : ∀ t, Steps p.tables e below (T113.setTop (mkF m 82 #[.val (.ref a1), .val (.ref a2), .val (.int (f9 w_vehicle_a2)), .val (.int (f10 w_emptyFrom_a2)), .val (.int (f11 w_emptyTo_a2)), .val (.int (c_w_ia ((f9 w_vehicle_a2)).toNatClampNeg))] [(.int (c_w_ia ((f9 w_vehicle_a2)).toNatClampNeg))])) t → Steps p.tables e below (s₁.setTop (entryFrame m #[(.ref a1), (.ref a2)] 6)) t := by
    intro t k
    refine pre8 t ?_
    refine XS.aloadN X112.here hx rfl (hb hby d8_72) rfl rfl ?_
    show Steps p.tables e below (T112.setTop (mkF m 73 #[.val (.ref a1), .val (.ref a2), .val (.int (f9 w_vehicle_a2)), .val (.int (f10 w_emptyFrom_a2)), .val (.int (f11 w_emptyTo_a2)), .unset] [(.ref a1)])) _
    refine st113 _ ?_
    show Steps p.tables e below (T113.setTop (mkF m 76 #[.val (.ref a1), .val (.ref a2), .val (.int (f9 w_vehicle_a2)), .val (.int (f10 w_emptyFrom_a2)), .val (.int (f11 w_emptyTo_a2)), .unset] [(.ref w_ia)])) _
    refine XS.iloadN X113.here hx rfl (hb hby d8_76) rfl ?_
    show Steps p.tables e below (T113.setTop (mkF m 77 #[.val (.ref a1), .val (.ref a2), .val (.int (f9 w_vehicle_a2)), .val (.int (f10 w_emptyFrom_a2)), .val (.int (f11 w_emptyTo_a2)), .unset] [(.int (f9 w_vehicle_a2)), (.ref w_ia)])) _
    refine ldI X113 hx hZ e113 c103 (j := (f9 w_vehicle_a2)) (own_i3 hv hl.1) (g := (mkF m 77 #[.val (.ref a1), .val (.ref a2), .val (.int (f9 w_vehicle_a2)), .val (.int (f10 w_emptyFrom_a2)), .val (.int (f11 w_emptyTo_a2)), .unset] [(.int (f9 w_vehicle_a2)), (.ref w_ia)])) rfl rfl (hb hby d8_77) ?_
    show Steps p.tables e below (T113.setTop (mkF m 78 #[.val (.ref a1), .val (.ref a2), .val (.int (f9 w_vehicle_a2)), .val (.int (f10 w_emptyFrom_a2)), .val (.int (f11 w_emptyTo_a2)), .unset] [(.int (c_w_ia ((f9 w_vehicle_a2)).toNatClampNeg))])) _
    refine XS.istore X113.here hx rfl (hb hby d8_78) rfl (l' := #[.val (.ref a1), .val (.ref a2), .val (.int (f9 w_vehicle_a2)), .val (.int (f10 w_emptyFrom_a2)), .val (.int (f11 w_emptyTo_a2)), .val (.int (c_w_ia ((f9 w_vehicle_a2)).toNatClampNeg))]) rfl ?_
    refine XS.iload X113.here hx rfl (hb hby d8_80) rfl ?_
    exact k
  obtain ⟨T218, Lmpre16, h193, X218, e218, N218, c194, c195, c196, c197, c198, c199, c200, c201, c202, c203, c204, c205, c206, c207, c208, c209, c210, c211, c212, c213, c214, c215, c216, c217, pre16⟩ : ∃ (T' : State) (L' : List Loc) (h193 : Heap), Stand p l e ({ frames := 1, cells := 0, slots := 0, locals := 15 } : Room) s m #[(.ref a1), (.ref a2)] below meth c T' L' 0 0 ∧ T'.heap = h193 ∧ Fr n0 L' ∧ n0 ≤ h193.size ∧ Exa Z h193 a1 "com/example/podflow/podflow/simulation/Ballot" ∧ Exa Z h193 a2 "com/example/podflow/podflow/simulation/Pickup" ∧ Fld Z h193 a2 "com/example/podflow/podflow/simulation/Pickup" "vehicle" "I" (.int w_vehicle_a2) ∧ Fld Z h193 a2 "com/example/podflow/podflow/simulation/Pickup" "emptyFrom" "I" (.int w_emptyFrom_a2) ∧ Fld Z h193 a2 "com/example/podflow/podflow/simulation/Pickup" "emptyTo" "I" (.int w_emptyTo_a2) ∧ Fld Z h193 a1 "com/example/podflow/podflow/simulation/Ballot" "idleAt" "[I" (.ref w_ia) ∧ Fld Z h193 a1 "com/example/podflow/podflow/simulation/Ballot" "idleCount" "[I" (.ref w_ic) ∧ Fld Z h193 a1 "com/example/podflow/podflow/simulation/Ballot" "open" "[Z" (.ref w_op) ∧ Fld Z h193 a1 "com/example/podflow/podflow/simulation/Ballot" "served" "[I" (.ref w_se) ∧ Fld Z h193 a1 "com/example/podflow/podflow/simulation/Ballot" "servedHome" "[I" (.ref w_sh) ∧ Fld Z h193 a1 "com/example/podflow/podflow/simulation/Ballot" "ownLeaving" "[I" (.ref w_ol) ∧ Fld Z h193 a1 "com/example/podflow/podflow/simulation/Ballot" "anyLeaving" "[I" (.ref w_al) ∧ Fld Z h193 a1 "com/example/podflow/podflow/simulation/Ballot" "counted" "[Z" (.ref w_co) ∧ Fld Z h193 a1 "com/example/podflow/podflow/simulation/Ballot" "unsettled" "I" (.int w_unsettled_a1) ∧ IAr Z h193 w_ia .int z_w_ia c_w_ia ∧ IAr Z h193 w_ic .int z_w_ic c_w_ic ∧ IAr Z h193 w_op .boolean z_w_op c_w_op ∧ IAr Z h193 w_se .int z_w_se (f8_A_w_se_130 w_vehicle_a2 w_emptyTo_a2 c_w_ia c_w_se c_w_co) ∧ IAr Z h193 w_sh .int z_w_sh (f8_A_w_sh_130 w_vehicle_a2 w_emptyTo_a2 c_w_ia c_w_sh c_w_co) ∧ IAr Z h193 w_ol .int z_w_ol (f8_A_w_ol_72 w_vehicle_a2 w_emptyFrom_a2 w_emptyTo_a2 c_w_ia c_w_ol) ∧ IAr Z h193 w_al .int z_w_al (f8_A_w_al_39 w_emptyFrom_a2 w_emptyTo_a2 c_w_al) ∧ IAr Z h193 w_co .boolean z_w_co (f8_A_w_co_130 w_vehicle_a2 w_emptyTo_a2 c_w_ia c_w_co) ∧ Keep h0 h193 [a1, w_op, w_se, w_sh, w_ol, w_al, w_co] ∧ ∀ t, Steps p.tables e below (T'.setTop (mkF m 130 #[.val (.ref a1), .val (.ref a2), .val (.int (f9 w_vehicle_a2)), .val (.int (f10 w_emptyFrom_a2)), .val (.int (f11 w_emptyTo_a2)), .val (.int (c_w_ia ((f9 w_vehicle_a2)).toNatClampNeg))] [])) t → Steps p.tables e below (s₁.setTop (entryFrame m #[(.ref a1), (.ref a2)] 6)) t := by
    by_cases hc82 : (c_w_ia ((f9 w_vehicle_a2)).toNatClampNeg) < (0 : Int32)
    · have eq17 := (show (f8_A_w_se_130 w_vehicle_a2 w_emptyTo_a2 c_w_ia c_w_se c_w_co) = c_w_se from by unfold f8_A_w_se_130; simp only [if_pos hc82])
      have eq18 := (show (f8_A_w_sh_130 w_vehicle_a2 w_emptyTo_a2 c_w_ia c_w_sh c_w_co) = c_w_sh from by unfold f8_A_w_sh_130; simp only [if_pos hc82])
      have eq19 := (show (f8_A_w_co_130 w_vehicle_a2 w_emptyTo_a2 c_w_ia c_w_co) = c_w_co from by unfold f8_A_w_co_130; simp only [if_pos hc82])
      refine ⟨T113, _, h87, X113, e113, N112, c88, c89, c90, c91, c92, c93, c94, c95, c96, c97, c98, c99, c100, c101, c102, c103, c104, c105, (by simp only [eq17, eq18, eq19]; exact c106), (by simp only [eq17, eq18, eq19]; exact c107), c108, c109, (by simp only [eq17, eq18, eq19]; exact c110), c111, fun t k => ?_⟩
      try rw [eq17] at k
      try rw [eq18] at k
      try rw [eq19] at k
      refine pre15 t ?_
      refine XS.ifYes X113.here hx rfl (pc0 := 82) (pc' := 130) rfl (hb hby d8_82) rfl ((if0 _ _).trans (tlt hc82).1) (by decide) (by decide) ?_
      exact k
    · obtain ⟨T114, X114, e114, st114⟩ := getF X113 hx hZ hown (host := "") (Or.inl (hw _ (List.mem_of_getElem? (i := 58) rfl))) Via.refl e113 c101 (g := (mkF m 86 #[.val (.ref a1), .val (.ref a2), .val (.int (f9 w_vehicle_a2)), .val (.int (f10 w_emptyFrom_a2)), .val (.int (f11 w_emptyTo_a2)), .val (.int (c_w_ia ((f9 w_vehicle_a2)).toNatClampNeg))] [(.ref a1)])) rfl rfl (hb hby d8_86)
      have pre20 : ∀ t, Steps p.tables e below (T114.setTop (mkF m 91 #[.val (.ref a1), .val (.ref a2), .val (.int (f9 w_vehicle_a2)), .val (.int (f10 w_emptyFrom_a2)), .val (.int (f11 w_emptyTo_a2)), .val (.int (c_w_ia ((f9 w_vehicle_a2)).toNatClampNeg))] [(.int (c_w_co ((f9 w_vehicle_a2)).toNatClampNeg))])) t → Steps p.tables e below (s₁.setTop (entryFrame m #[(.ref a1), (.ref a2)] 6)) t := by
        intro t k
        refine pre15 t ?_
        refine XS.ifNo X113.here hx rfl (hb hby d8_82) rfl ((if0 _ _).trans (flt hc82).1) ?_
        show Steps p.tables e below (T113.setTop (mkF m 85 #[.val (.ref a1), .val (.ref a2), .val (.int (f9 w_vehicle_a2)), .val (.int (f10 w_emptyFrom_a2)), .val (.int (f11 w_emptyTo_a2)), .val (.int (c_w_ia ((f9 w_vehicle_a2)).toNatClampNeg))] [])) _
        refine XS.aloadN X113.here hx rfl (hb hby d8_85) rfl rfl ?_
        show Steps p.tables e below (T113.setTop (mkF m 86 #[.val (.ref a1), .val (.ref a2), .val (.int (f9 w_vehicle_a2)), .val (.int (f10 w_emptyFrom_a2)), .val (.int (f11 w_emptyTo_a2)), .val (.int (c_w_ia ((f9 w_vehicle_a2)).toNatClampNeg))] [(.ref a1)])) _
        refine st114 _ ?_
        show Steps p.tables e below (T114.setTop (mkF m 89 #[.val (.ref a1), .val (.ref a2), .val (.int (f9 w_vehicle_a2)), .val (.int (f10 w_emptyFrom_a2)), .val (.int (f11 w_emptyTo_a2)), .val (.int (c_w_ia ((f9 w_vehicle_a2)).toNatClampNeg))] [(.ref w_co)])) _
        refine XS.iloadN X114.here hx rfl (hb hby d8_89) rfl ?_
        show Steps p.tables e below (T114.setTop (mkF m 90 #[.val (.ref a1), .val (.ref a2), .val (.int (f9 w_vehicle_a2)), .val (.int (f10 w_emptyFrom_a2)), .val (.int (f11 w_emptyTo_a2)), .val (.int (c_w_ia ((f9 w_vehicle_a2)).toNatClampNeg))] [(.int (f9 w_vehicle_a2)), (.ref w_co)])) _
        refine ldZ X114 hx hZ e114 c110 (j := (f9 w_vehicle_a2)) (own_i3 hv hl.2.2.2.2.2.2.2) (g := (mkF m 90 #[.val (.ref a1), .val (.ref a2), .val (.int (f9 w_vehicle_a2)), .val (.int (f10 w_emptyFrom_a2)), .val (.int (f11 w_emptyTo_a2)), .val (.int (c_w_ia ((f9 w_vehicle_a2)).toNatClampNeg))] [(.int (f9 w_vehicle_a2)), (.ref w_co)])) rfl rfl (hb hby d8_90) ?_
        exact k
      by_cases hc91 : (c_w_co ((f9 w_vehicle_a2)).toNatClampNeg) = (0 : Int32)
      · obtain ⟨T115, X115, e115, st115⟩ := getF X114 hx hZ hown (host := "") (Or.inl (hw _ (List.mem_of_getElem? (i := 58) rfl))) Via.refl e114 c101 (g := (mkF m 95 #[.val (.ref a1), .val (.ref a2), .val (.int (f9 w_vehicle_a2)), .val (.int (f10 w_emptyFrom_a2)), .val (.int (f11 w_emptyTo_a2)), .val (.int (c_w_ia ((f9 w_vehicle_a2)).toNatClampNeg))] [(.ref a1)])) rfl rfl (hb hby d8_95)
        obtain ⟨T116, h116, X116, e116, W116, V116, st116⟩ := sZ X115 hx hZ e115 c110 (j := (f9 w_vehicle_a2)) (own_i3 hv hl.2.2.2.2.2.2.2) (g := (mkF m 100 #[.val (.ref a1), .val (.ref a2), .val (.int (f9 w_vehicle_a2)), .val (.int (f10 w_emptyFrom_a2)), .val (.int (f11 w_emptyTo_a2)), .val (.int (c_w_ia ((f9 w_vehicle_a2)).toNatClampNeg))] [(.int (1 : Int32)), (.int (f9 w_vehicle_a2)), (.ref w_co)])) rfl rfl (hb hby d8_100)
        have N116 := Fr.snoc X116 N112 g_w_co
        have c117 : n0 ≤ h116.size := Nat.le_trans c88 (Keep.of_wr W116).1
        have c118 : Exa Z h116 a1 "com/example/podflow/podflow/simulation/Ballot" := c89.wr W116
        have c119 : Exa Z h116 a2 "com/example/podflow/podflow/simulation/Pickup" := c90.wr W116
        have c120 : Fld Z h116 a2 "com/example/podflow/podflow/simulation/Pickup" "vehicle" "I" (.int w_vehicle_a2) := c91.other W116 (Or.inl ne_a2_w_co)
        have c121 : Fld Z h116 a2 "com/example/podflow/podflow/simulation/Pickup" "emptyFrom" "I" (.int w_emptyFrom_a2) := c92.other W116 (Or.inl ne_a2_w_co)
        have c122 : Fld Z h116 a2 "com/example/podflow/podflow/simulation/Pickup" "emptyTo" "I" (.int w_emptyTo_a2) := c93.other W116 (Or.inl ne_a2_w_co)
        have c123 : Fld Z h116 a1 "com/example/podflow/podflow/simulation/Ballot" "idleAt" "[I" (.ref w_ia) := c94.other W116 (Or.inl ne_a1_w_co)
        have c124 : Fld Z h116 a1 "com/example/podflow/podflow/simulation/Ballot" "idleCount" "[I" (.ref w_ic) := c95.other W116 (Or.inl ne_a1_w_co)
        have c125 : Fld Z h116 a1 "com/example/podflow/podflow/simulation/Ballot" "open" "[Z" (.ref w_op) := c96.other W116 (Or.inl ne_a1_w_co)
        have c126 : Fld Z h116 a1 "com/example/podflow/podflow/simulation/Ballot" "served" "[I" (.ref w_se) := c97.other W116 (Or.inl ne_a1_w_co)
        have c127 : Fld Z h116 a1 "com/example/podflow/podflow/simulation/Ballot" "servedHome" "[I" (.ref w_sh) := c98.other W116 (Or.inl ne_a1_w_co)
        have c128 : Fld Z h116 a1 "com/example/podflow/podflow/simulation/Ballot" "ownLeaving" "[I" (.ref w_ol) := c99.other W116 (Or.inl ne_a1_w_co)
        have c129 : Fld Z h116 a1 "com/example/podflow/podflow/simulation/Ballot" "anyLeaving" "[I" (.ref w_al) := c100.other W116 (Or.inl ne_a1_w_co)
        have c130 : Fld Z h116 a1 "com/example/podflow/podflow/simulation/Ballot" "counted" "[Z" (.ref w_co) := c101.other W116 (Or.inl ne_a1_w_co)
        have c131 : Fld Z h116 a1 "com/example/podflow/podflow/simulation/Ballot" "unsettled" "I" (.int w_unsettled_a1) := c102.other W116 (Or.inl ne_a1_w_co)
        have c132 : IAr Z h116 w_ia .int z_w_ia c_w_ia := c103.other W116 ne_w_ia_w_co
        have c133 : IAr Z h116 w_ic .int z_w_ic c_w_ic := c104.other W116 ne_w_ic_w_co
        have c134 : IAr Z h116 w_op .boolean z_w_op c_w_op := c105.other W116 ne_w_op_w_co
        have c135 : IAr Z h116 w_se .int z_w_se c_w_se := c106.other W116 ne_w_se_w_co
        have c136 : IAr Z h116 w_sh .int z_w_sh c_w_sh := c107.other W116 ne_w_sh_w_co
        have c137 : IAr Z h116 w_ol .int z_w_ol (f8_A_w_ol_72 w_vehicle_a2 w_emptyFrom_a2 w_emptyTo_a2 c_w_ia c_w_ol) := c108.other W116 ne_w_ol_w_co
        have c138 : IAr Z h116 w_al .int z_w_al (f8_A_w_al_39 w_emptyFrom_a2 w_emptyTo_a2 c_w_al) := c109.other W116 ne_w_al_w_co
        have c139 : IAr Z h116 w_co .boolean z_w_co (f8_v100 w_vehicle_a2 c_w_co) := V116
        have c140 : Keep h0 h116 [a1, w_op, w_se, w_sh, w_ol, w_al, w_co] := c111.wr W116 (Or.inl (List.mem_of_getElem? (i := 6) rfl))
        obtain ⟨T141, X141, e141, st141⟩ := getF X116 hx hZ hown (host := "") (Or.inl (hw _ (List.mem_of_getElem? (i := 50) rfl))) Via.refl e116 c126 (g := (mkF m 102 #[.val (.ref a1), .val (.ref a2), .val (.int (f9 w_vehicle_a2)), .val (.int (f10 w_emptyFrom_a2)), .val (.int (f11 w_emptyTo_a2)), .val (.int (c_w_ia ((f9 w_vehicle_a2)).toNatClampNeg))] [(.ref a1)])) rfl rfl (hb hby d8_102)
        obtain ⟨T142, h142, X142, e142, W142, V142, st142⟩ := sI X141 hx hZ e141 c135 (j := (c_w_ia ((f9 w_vehicle_a2)).toNatClampNeg)) (own_i3c hc82 (hia _) hl.2.2.2.1) (g := (mkF m 111 #[.val (.ref a1), .val (.ref a2), .val (.int (f9 w_vehicle_a2)), .val (.int (f10 w_emptyFrom_a2)), .val (.int (f11 w_emptyTo_a2)), .val (.int (c_w_ia ((f9 w_vehicle_a2)).toNatClampNeg))] [(.int ((c_w_se ((c_w_ia ((f9 w_vehicle_a2)).toNatClampNeg)).toNatClampNeg) + (1 : Int32))), (.int (c_w_ia ((f9 w_vehicle_a2)).toNatClampNeg)), (.ref w_se)])) rfl rfl (hb hby d8_111)
        have N142 := Fr.snoc X142 N116 g_w_se
        have c143 : n0 ≤ h142.size := Nat.le_trans c117 (Keep.of_wr W142).1
        have c144 : Exa Z h142 a1 "com/example/podflow/podflow/simulation/Ballot" := c118.wr W142
        have c145 : Exa Z h142 a2 "com/example/podflow/podflow/simulation/Pickup" := c119.wr W142
        have c146 : Fld Z h142 a2 "com/example/podflow/podflow/simulation/Pickup" "vehicle" "I" (.int w_vehicle_a2) := c120.other W142 (Or.inl ne_a2_w_se)
        have c147 : Fld Z h142 a2 "com/example/podflow/podflow/simulation/Pickup" "emptyFrom" "I" (.int w_emptyFrom_a2) := c121.other W142 (Or.inl ne_a2_w_se)
        have c148 : Fld Z h142 a2 "com/example/podflow/podflow/simulation/Pickup" "emptyTo" "I" (.int w_emptyTo_a2) := c122.other W142 (Or.inl ne_a2_w_se)
        have c149 : Fld Z h142 a1 "com/example/podflow/podflow/simulation/Ballot" "idleAt" "[I" (.ref w_ia) := c123.other W142 (Or.inl ne_a1_w_se)
        have c150 : Fld Z h142 a1 "com/example/podflow/podflow/simulation/Ballot" "idleCount" "[I" (.ref w_ic) := c124.other W142 (Or.inl ne_a1_w_se)
        have c151 : Fld Z h142 a1 "com/example/podflow/podflow/simulation/Ballot" "open" "[Z" (.ref w_op) := c125.other W142 (Or.inl ne_a1_w_se)
        have c152 : Fld Z h142 a1 "com/example/podflow/podflow/simulation/Ballot" "served" "[I" (.ref w_se) := c126.other W142 (Or.inl ne_a1_w_se)
        have c153 : Fld Z h142 a1 "com/example/podflow/podflow/simulation/Ballot" "servedHome" "[I" (.ref w_sh) := c127.other W142 (Or.inl ne_a1_w_se)
        have c154 : Fld Z h142 a1 "com/example/podflow/podflow/simulation/Ballot" "ownLeaving" "[I" (.ref w_ol) := c128.other W142 (Or.inl ne_a1_w_se)
        have c155 : Fld Z h142 a1 "com/example/podflow/podflow/simulation/Ballot" "anyLeaving" "[I" (.ref w_al) := c129.other W142 (Or.inl ne_a1_w_se)
        have c156 : Fld Z h142 a1 "com/example/podflow/podflow/simulation/Ballot" "counted" "[Z" (.ref w_co) := c130.other W142 (Or.inl ne_a1_w_se)
        have c157 : Fld Z h142 a1 "com/example/podflow/podflow/simulation/Ballot" "unsettled" "I" (.int w_unsettled_a1) := c131.other W142 (Or.inl ne_a1_w_se)
        have c158 : IAr Z h142 w_ia .int z_w_ia c_w_ia := c132.other W142 ne_w_ia_w_se
        have c159 : IAr Z h142 w_ic .int z_w_ic c_w_ic := c133.other W142 ne_w_ic_w_se
        have c160 : IAr Z h142 w_op .boolean z_w_op c_w_op := c134.other W142 ne_w_op_w_se
        have c161 : IAr Z h142 w_se .int z_w_se (f8_v111 w_vehicle_a2 c_w_ia c_w_se) := V142
        have c162 : IAr Z h142 w_sh .int z_w_sh c_w_sh := c136.other W142 (Ne.symm ne_w_se_w_sh)
        have c163 : IAr Z h142 w_ol .int z_w_ol (f8_A_w_ol_72 w_vehicle_a2 w_emptyFrom_a2 w_emptyTo_a2 c_w_ia c_w_ol) := c137.other W142 (Ne.symm ne_w_se_w_ol)
        have c164 : IAr Z h142 w_al .int z_w_al (f8_A_w_al_39 w_emptyFrom_a2 w_emptyTo_a2 c_w_al) := c138.other W142 (Ne.symm ne_w_se_w_al)
        have c165 : IAr Z h142 w_co .boolean z_w_co (f8_v100 w_vehicle_a2 c_w_co) := c139.other W142 (Ne.symm ne_w_se_w_co)
        have c166 : Keep h0 h142 [a1, w_op, w_se, w_sh, w_ol, w_al, w_co] := c140.wr W142 (Or.inl (List.mem_of_getElem? (i := 2) rfl))
        have pre21 : ∀ t, Steps p.tables e below (T142.setTop (mkF m 116 #[.val (.ref a1), .val (.ref a2), .val (.int (f9 w_vehicle_a2)), .val (.int (f10 w_emptyFrom_a2)), .val (.int (f11 w_emptyTo_a2)), .val (.int (c_w_ia ((f9 w_vehicle_a2)).toNatClampNeg))] [(.int (c_w_ia ((f9 w_vehicle_a2)).toNatClampNeg)), (.int (f11 w_emptyTo_a2))])) t → Steps p.tables e below (s₁.setTop (entryFrame m #[(.ref a1), (.ref a2)] 6)) t := by
          intro t k
          refine pre20 t ?_
          refine XS.ifNo X114.here hx rfl (hb hby d8_91) rfl ((if0 _ _).trans (teq hc91).2) ?_
          refine XS.aloadN X114.here hx rfl (hb hby d8_94) rfl rfl ?_
          show Steps p.tables e below (T114.setTop (mkF m 95 #[.val (.ref a1), .val (.ref a2), .val (.int (f9 w_vehicle_a2)), .val (.int (f10 w_emptyFrom_a2)), .val (.int (f11 w_emptyTo_a2)), .val (.int (c_w_ia ((f9 w_vehicle_a2)).toNatClampNeg))] [(.ref a1)])) _
          refine st115 _ ?_
          show Steps p.tables e below (T115.setTop (mkF m 98 #[.val (.ref a1), .val (.ref a2), .val (.int (f9 w_vehicle_a2)), .val (.int (f10 w_emptyFrom_a2)), .val (.int (f11 w_emptyTo_a2)), .val (.int (c_w_ia ((f9 w_vehicle_a2)).toNatClampNeg))] [(.ref w_co)])) _
          refine XS.iloadN X115.here hx rfl (hb hby d8_98) rfl ?_
          refine XS.iconst X115.here hx rfl (hb hby d8_99) ?_
          show Steps p.tables e below (T115.setTop (mkF m 100 #[.val (.ref a1), .val (.ref a2), .val (.int (f9 w_vehicle_a2)), .val (.int (f10 w_emptyFrom_a2)), .val (.int (f11 w_emptyTo_a2)), .val (.int (c_w_ia ((f9 w_vehicle_a2)).toNatClampNeg))] [(.int (1 : Int32)), (.int (f9 w_vehicle_a2)), (.ref w_co)])) _
          refine st116 _ ?_
          show Steps p.tables e below (T116.setTop (mkF m 101 #[.val (.ref a1), .val (.ref a2), .val (.int (f9 w_vehicle_a2)), .val (.int (f10 w_emptyFrom_a2)), .val (.int (f11 w_emptyTo_a2)), .val (.int (c_w_ia ((f9 w_vehicle_a2)).toNatClampNeg))] [])) _
          refine XS.aloadN X116.here hx rfl (hb hby d8_101) rfl rfl ?_
          show Steps p.tables e below (T116.setTop (mkF m 102 #[.val (.ref a1), .val (.ref a2), .val (.int (f9 w_vehicle_a2)), .val (.int (f10 w_emptyFrom_a2)), .val (.int (f11 w_emptyTo_a2)), .val (.int (c_w_ia ((f9 w_vehicle_a2)).toNatClampNeg))] [(.ref a1)])) _
          refine st141 _ ?_
          show Steps p.tables e below (T141.setTop (mkF m 105 #[.val (.ref a1), .val (.ref a2), .val (.int (f9 w_vehicle_a2)), .val (.int (f10 w_emptyFrom_a2)), .val (.int (f11 w_emptyTo_a2)), .val (.int (c_w_ia ((f9 w_vehicle_a2)).toNatClampNeg))] [(.ref w_se)])) _
          refine XS.iload X141.here hx rfl (hb hby d8_105) rfl ?_
          show Steps p.tables e below (T141.setTop (mkF m 107 #[.val (.ref a1), .val (.ref a2), .val (.int (f9 w_vehicle_a2)), .val (.int (f10 w_emptyFrom_a2)), .val (.int (f11 w_emptyTo_a2)), .val (.int (c_w_ia ((f9 w_vehicle_a2)).toNatClampNeg))] [(.int (c_w_ia ((f9 w_vehicle_a2)).toNatClampNeg)), (.ref w_se)])) _
          refine XT.dup2 X141.here hx rfl (hb hby d8_107) rfl rfl rfl ?_
          show Steps p.tables e below (T141.setTop (mkF m 108 #[.val (.ref a1), .val (.ref a2), .val (.int (f9 w_vehicle_a2)), .val (.int (f10 w_emptyFrom_a2)), .val (.int (f11 w_emptyTo_a2)), .val (.int (c_w_ia ((f9 w_vehicle_a2)).toNatClampNeg))] [(.int (c_w_ia ((f9 w_vehicle_a2)).toNatClampNeg)), (.ref w_se), (.int (c_w_ia ((f9 w_vehicle_a2)).toNatClampNeg)), (.ref w_se)])) _
          refine ldI X141 hx hZ e141 c135 (j := (c_w_ia ((f9 w_vehicle_a2)).toNatClampNeg)) (own_i3c hc82 (hia _) hl.2.2.2.1) (g := (mkF m 108 #[.val (.ref a1), .val (.ref a2), .val (.int (f9 w_vehicle_a2)), .val (.int (f10 w_emptyFrom_a2)), .val (.int (f11 w_emptyTo_a2)), .val (.int (c_w_ia ((f9 w_vehicle_a2)).toNatClampNeg))] [(.int (c_w_ia ((f9 w_vehicle_a2)).toNatClampNeg)), (.ref w_se), (.int (c_w_ia ((f9 w_vehicle_a2)).toNatClampNeg)), (.ref w_se)])) rfl rfl (hb hby d8_108) ?_
          show Steps p.tables e below (T141.setTop (mkF m 109 #[.val (.ref a1), .val (.ref a2), .val (.int (f9 w_vehicle_a2)), .val (.int (f10 w_emptyFrom_a2)), .val (.int (f11 w_emptyTo_a2)), .val (.int (c_w_ia ((f9 w_vehicle_a2)).toNatClampNeg))] [(.int (c_w_se ((c_w_ia ((f9 w_vehicle_a2)).toNatClampNeg)).toNatClampNeg)), (.int (c_w_ia ((f9 w_vehicle_a2)).toNatClampNeg)), (.ref w_se)])) _
          refine XS.iconst X141.here hx rfl (hb hby d8_109) ?_
          refine XS.iadd X141.here hx rfl (hb hby d8_110) rfl ?_
          show Steps p.tables e below (T141.setTop (mkF m 111 #[.val (.ref a1), .val (.ref a2), .val (.int (f9 w_vehicle_a2)), .val (.int (f10 w_emptyFrom_a2)), .val (.int (f11 w_emptyTo_a2)), .val (.int (c_w_ia ((f9 w_vehicle_a2)).toNatClampNeg))] [(.int ((c_w_se ((c_w_ia ((f9 w_vehicle_a2)).toNatClampNeg)).toNatClampNeg) + (1 : Int32))), (.int (c_w_ia ((f9 w_vehicle_a2)).toNatClampNeg)), (.ref w_se)])) _
          refine st142 _ ?_
          show Steps p.tables e below (T142.setTop (mkF m 112 #[.val (.ref a1), .val (.ref a2), .val (.int (f9 w_vehicle_a2)), .val (.int (f10 w_emptyFrom_a2)), .val (.int (f11 w_emptyTo_a2)), .val (.int (c_w_ia ((f9 w_vehicle_a2)).toNatClampNeg))] [])) _
          refine XS.iload X142.here hx rfl (hb hby d8_112) rfl ?_
          refine XS.iload X142.here hx rfl (hb hby d8_114) rfl ?_
          exact k
        by_cases hc116 : (f11 w_emptyTo_a2) = (c_w_ia ((f9 w_vehicle_a2)).toNatClampNeg)
        · obtain ⟨T167, X167, e167, st167⟩ := getF X142 hx hZ hown (host := "") (Or.inl (hw _ (List.mem_of_getElem? (i := 52) rfl))) Via.refl e142 c153 (g := (mkF m 120 #[.val (.ref a1), .val (.ref a2), .val (.int (f9 w_vehicle_a2)), .val (.int (f10 w_emptyFrom_a2)), .val (.int (f11 w_emptyTo_a2)), .val (.int (c_w_ia ((f9 w_vehicle_a2)).toNatClampNeg))] [(.ref a1)])) rfl rfl (hb hby d8_120)
          obtain ⟨T168, h168, X168, e168, W168, V168, st168⟩ := sI X167 hx hZ e167 c162 (j := (c_w_ia ((f9 w_vehicle_a2)).toNatClampNeg)) (own_i3c hc82 (hia _) hl.2.2.2.2.1) (g := (mkF m 129 #[.val (.ref a1), .val (.ref a2), .val (.int (f9 w_vehicle_a2)), .val (.int (f10 w_emptyFrom_a2)), .val (.int (f11 w_emptyTo_a2)), .val (.int (c_w_ia ((f9 w_vehicle_a2)).toNatClampNeg))] [(.int ((c_w_sh ((c_w_ia ((f9 w_vehicle_a2)).toNatClampNeg)).toNatClampNeg) + (1 : Int32))), (.int (c_w_ia ((f9 w_vehicle_a2)).toNatClampNeg)), (.ref w_sh)])) rfl rfl (hb hby d8_129)
          have N168 := Fr.snoc X168 N142 g_w_sh
          have c169 : n0 ≤ h168.size := Nat.le_trans c143 (Keep.of_wr W168).1
          have c170 : Exa Z h168 a1 "com/example/podflow/podflow/simulation/Ballot" := c144.wr W168
          have c171 : Exa Z h168 a2 "com/example/podflow/podflow/simulation/Pickup" := c145.wr W168
          have c172 : Fld Z h168 a2 "com/example/podflow/podflow/simulation/Pickup" "vehicle" "I" (.int w_vehicle_a2) := c146.other W168 (Or.inl ne_a2_w_sh)
          have c173 : Fld Z h168 a2 "com/example/podflow/podflow/simulation/Pickup" "emptyFrom" "I" (.int w_emptyFrom_a2) := c147.other W168 (Or.inl ne_a2_w_sh)
          have c174 : Fld Z h168 a2 "com/example/podflow/podflow/simulation/Pickup" "emptyTo" "I" (.int w_emptyTo_a2) := c148.other W168 (Or.inl ne_a2_w_sh)
          have c175 : Fld Z h168 a1 "com/example/podflow/podflow/simulation/Ballot" "idleAt" "[I" (.ref w_ia) := c149.other W168 (Or.inl ne_a1_w_sh)
          have c176 : Fld Z h168 a1 "com/example/podflow/podflow/simulation/Ballot" "idleCount" "[I" (.ref w_ic) := c150.other W168 (Or.inl ne_a1_w_sh)
          have c177 : Fld Z h168 a1 "com/example/podflow/podflow/simulation/Ballot" "open" "[Z" (.ref w_op) := c151.other W168 (Or.inl ne_a1_w_sh)
          have c178 : Fld Z h168 a1 "com/example/podflow/podflow/simulation/Ballot" "served" "[I" (.ref w_se) := c152.other W168 (Or.inl ne_a1_w_sh)
          have c179 : Fld Z h168 a1 "com/example/podflow/podflow/simulation/Ballot" "servedHome" "[I" (.ref w_sh) := c153.other W168 (Or.inl ne_a1_w_sh)
          have c180 : Fld Z h168 a1 "com/example/podflow/podflow/simulation/Ballot" "ownLeaving" "[I" (.ref w_ol) := c154.other W168 (Or.inl ne_a1_w_sh)
          have c181 : Fld Z h168 a1 "com/example/podflow/podflow/simulation/Ballot" "anyLeaving" "[I" (.ref w_al) := c155.other W168 (Or.inl ne_a1_w_sh)
          have c182 : Fld Z h168 a1 "com/example/podflow/podflow/simulation/Ballot" "counted" "[Z" (.ref w_co) := c156.other W168 (Or.inl ne_a1_w_sh)
          have c183 : Fld Z h168 a1 "com/example/podflow/podflow/simulation/Ballot" "unsettled" "I" (.int w_unsettled_a1) := c157.other W168 (Or.inl ne_a1_w_sh)
          have c184 : IAr Z h168 w_ia .int z_w_ia c_w_ia := c158.other W168 ne_w_ia_w_sh
          have c185 : IAr Z h168 w_ic .int z_w_ic c_w_ic := c159.other W168 ne_w_ic_w_sh
          have c186 : IAr Z h168 w_op .boolean z_w_op c_w_op := c160.other W168 ne_w_op_w_sh
          have c187 : IAr Z h168 w_se .int z_w_se (f8_v111 w_vehicle_a2 c_w_ia c_w_se) := c161.other W168 ne_w_se_w_sh
          have c188 : IAr Z h168 w_sh .int z_w_sh (f8_v129 w_vehicle_a2 c_w_ia c_w_sh) := V168
          have c189 : IAr Z h168 w_ol .int z_w_ol (f8_A_w_ol_72 w_vehicle_a2 w_emptyFrom_a2 w_emptyTo_a2 c_w_ia c_w_ol) := c163.other W168 (Ne.symm ne_w_sh_w_ol)
          have c190 : IAr Z h168 w_al .int z_w_al (f8_A_w_al_39 w_emptyFrom_a2 w_emptyTo_a2 c_w_al) := c164.other W168 (Ne.symm ne_w_sh_w_al)
          have c191 : IAr Z h168 w_co .boolean z_w_co (f8_v100 w_vehicle_a2 c_w_co) := c165.other W168 (Ne.symm ne_w_sh_w_co)
          have c192 : Keep h0 h168 [a1, w_op, w_se, w_sh, w_ol, w_al, w_co] := c166.wr W168 (Or.inl (List.mem_of_getElem? (i := 3) rfl))
          have eq22 := (show (f8_A_w_se_130 w_vehicle_a2 w_emptyTo_a2 c_w_ia c_w_se c_w_co) = (f8_v111 w_vehicle_a2 c_w_ia c_w_se) from by unfold f8_A_w_se_130; simp only [if_neg hc82, if_pos hc91, if_pos hc116])
          have eq23 := (show (f8_A_w_sh_130 w_vehicle_a2 w_emptyTo_a2 c_w_ia c_w_sh c_w_co) = (f8_v129 w_vehicle_a2 c_w_ia c_w_sh) from by unfold f8_A_w_sh_130; simp only [if_neg hc82, if_pos hc91, if_pos hc116])
          have eq24 := (show (f8_A_w_co_130 w_vehicle_a2 w_emptyTo_a2 c_w_ia c_w_co) = (f8_v100 w_vehicle_a2 c_w_co) from by unfold f8_A_w_co_130; simp only [if_neg hc82, if_pos hc91, if_pos hc116])
          refine ⟨T168, _, h168, X168, e168, N168, c169, c170, c171, c172, c173, c174, c175, c176, c177, c178, c179, c180, c181, c182, c183, c184, c185, c186, (by simp only [eq22, eq23, eq24]; exact c187), (by simp only [eq22, eq23, eq24]; exact c188), c189, c190, (by simp only [eq22, eq23, eq24]; exact c191), c192, fun t k => ?_⟩
          try rw [eq22] at k
          try rw [eq23] at k
          try rw [eq24] at k
          refine pre21 t ?_
          refine XS.icmpNo X142.here hx rfl (hb hby d8_116) rfl (teq hc116).2 ?_
          refine XS.aloadN X142.here hx rfl (hb hby d8_119) rfl rfl ?_
          show Steps p.tables e below (T142.setTop (mkF m 120 #[.val (.ref a1), .val (.ref a2), .val (.int (f9 w_vehicle_a2)), .val (.int (f10 w_emptyFrom_a2)), .val (.int (f11 w_emptyTo_a2)), .val (.int (c_w_ia ((f9 w_vehicle_a2)).toNatClampNeg))] [(.ref a1)])) _
          refine st167 _ ?_
          show Steps p.tables e below (T167.setTop (mkF m 123 #[.val (.ref a1), .val (.ref a2), .val (.int (f9 w_vehicle_a2)), .val (.int (f10 w_emptyFrom_a2)), .val (.int (f11 w_emptyTo_a2)), .val (.int (c_w_ia ((f9 w_vehicle_a2)).toNatClampNeg))] [(.ref w_sh)])) _
          refine XS.iload X167.here hx rfl (hb hby d8_123) rfl ?_
          show Steps p.tables e below (T167.setTop (mkF m 125 #[.val (.ref a1), .val (.ref a2), .val (.int (f9 w_vehicle_a2)), .val (.int (f10 w_emptyFrom_a2)), .val (.int (f11 w_emptyTo_a2)), .val (.int (c_w_ia ((f9 w_vehicle_a2)).toNatClampNeg))] [(.int (c_w_ia ((f9 w_vehicle_a2)).toNatClampNeg)), (.ref w_sh)])) _
          refine XT.dup2 X167.here hx rfl (hb hby d8_125) rfl rfl rfl ?_
          show Steps p.tables e below (T167.setTop (mkF m 126 #[.val (.ref a1), .val (.ref a2), .val (.int (f9 w_vehicle_a2)), .val (.int (f10 w_emptyFrom_a2)), .val (.int (f11 w_emptyTo_a2)), .val (.int (c_w_ia ((f9 w_vehicle_a2)).toNatClampNeg))] [(.int (c_w_ia ((f9 w_vehicle_a2)).toNatClampNeg)), (.ref w_sh), (.int (c_w_ia ((f9 w_vehicle_a2)).toNatClampNeg)), (.ref w_sh)])) _
          refine ldI X167 hx hZ e167 c162 (j := (c_w_ia ((f9 w_vehicle_a2)).toNatClampNeg)) (own_i3c hc82 (hia _) hl.2.2.2.2.1) (g := (mkF m 126 #[.val (.ref a1), .val (.ref a2), .val (.int (f9 w_vehicle_a2)), .val (.int (f10 w_emptyFrom_a2)), .val (.int (f11 w_emptyTo_a2)), .val (.int (c_w_ia ((f9 w_vehicle_a2)).toNatClampNeg))] [(.int (c_w_ia ((f9 w_vehicle_a2)).toNatClampNeg)), (.ref w_sh), (.int (c_w_ia ((f9 w_vehicle_a2)).toNatClampNeg)), (.ref w_sh)])) rfl rfl (hb hby d8_126) ?_
          show Steps p.tables e below (T167.setTop (mkF m 127 #[.val (.ref a1), .val (.ref a2), .val (.int (f9 w_vehicle_a2)), .val (.int (f10 w_emptyFrom_a2)), .val (.int (f11 w_emptyTo_a2)), .val (.int (c_w_ia ((f9 w_vehicle_a2)).toNatClampNeg))] [(.int (c_w_sh ((c_w_ia ((f9 w_vehicle_a2)).toNatClampNeg)).toNatClampNeg)), (.int (c_w_ia ((f9 w_vehicle_a2)).toNatClampNeg)), (.ref w_sh)])) _
          refine XS.iconst X167.here hx rfl (hb hby d8_127) ?_
          refine XS.iadd X167.here hx rfl (hb hby d8_128) rfl ?_
          show Steps p.tables e below (T167.setTop (mkF m 129 #[.val (.ref a1), .val (.ref a2), .val (.int (f9 w_vehicle_a2)), .val (.int (f10 w_emptyFrom_a2)), .val (.int (f11 w_emptyTo_a2)), .val (.int (c_w_ia ((f9 w_vehicle_a2)).toNatClampNeg))] [(.int ((c_w_sh ((c_w_ia ((f9 w_vehicle_a2)).toNatClampNeg)).toNatClampNeg) + (1 : Int32))), (.int (c_w_ia ((f9 w_vehicle_a2)).toNatClampNeg)), (.ref w_sh)])) _
          refine st168 _ ?_
          exact k
        · have eq25 := (show (f8_A_w_se_130 w_vehicle_a2 w_emptyTo_a2 c_w_ia c_w_se c_w_co) = (f8_v111 w_vehicle_a2 c_w_ia c_w_se) from by unfold f8_A_w_se_130; simp only [if_neg hc82, if_pos hc91, if_neg hc116])
          have eq26 := (show (f8_A_w_sh_130 w_vehicle_a2 w_emptyTo_a2 c_w_ia c_w_sh c_w_co) = c_w_sh from by unfold f8_A_w_sh_130; simp only [if_neg hc82, if_pos hc91, if_neg hc116])
          have eq27 := (show (f8_A_w_co_130 w_vehicle_a2 w_emptyTo_a2 c_w_ia c_w_co) = (f8_v100 w_vehicle_a2 c_w_co) from by unfold f8_A_w_co_130; simp only [if_neg hc82, if_pos hc91, if_neg hc116])
          refine ⟨T142, _, h142, X142, e142, N142, c143, c144, c145, c146, c147, c148, c149, c150, c151, c152, c153, c154, c155, c156, c157, c158, c159, c160, (by simp only [eq25, eq26, eq27]; exact c161), (by simp only [eq25, eq26, eq27]; exact c162), c163, c164, (by simp only [eq25, eq26, eq27]; exact c165), c166, fun t k => ?_⟩
          try rw [eq25] at k
          try rw [eq26] at k
          try rw [eq27] at k
          refine pre21 t ?_
          refine XS.icmpYes X142.here hx rfl (pc0 := 116) (pc' := 130) rfl (hb hby d8_116) rfl (feq hc116).2 (by decide) (by decide) ?_
          exact k
      · have eq28 := (show (f8_A_w_se_130 w_vehicle_a2 w_emptyTo_a2 c_w_ia c_w_se c_w_co) = c_w_se from by unfold f8_A_w_se_130; simp only [if_neg hc82, if_neg hc91])
        have eq29 := (show (f8_A_w_sh_130 w_vehicle_a2 w_emptyTo_a2 c_w_ia c_w_sh c_w_co) = c_w_sh from by unfold f8_A_w_sh_130; simp only [if_neg hc82, if_neg hc91])
        have eq30 := (show (f8_A_w_co_130 w_vehicle_a2 w_emptyTo_a2 c_w_ia c_w_co) = c_w_co from by unfold f8_A_w_co_130; simp only [if_neg hc82, if_neg hc91])
        refine ⟨T114, _, h87, X114, e114, N112, c88, c89, c90, c91, c92, c93, c94, c95, c96, c97, c98, c99, c100, c101, c102, c103, c104, c105, (by simp only [eq28, eq29, eq30]; exact c106), (by simp only [eq28, eq29, eq30]; exact c107), c108, c109, (by simp only [eq28, eq29, eq30]; exact c110), c111, fun t k => ?_⟩
        try rw [eq28] at k
        try rw [eq29] at k
        try rw [eq30] at k
        refine pre20 t ?_
        refine XS.ifYes X114.here hx rfl (pc0 := 91) (pc' := 130) rfl (hb hby d8_91) rfl ((if0 _ _).trans (feq hc91).2) (by decide) (by decide) ?_
        exact k
  obtain ⟨cq219, q219, q219'⟩ := c195.cell
  obtain ⟨_, _, ⟨T219, L219, k219, n219⟩, -, X219, ⟨Lc219, hQ219, l219, y219, z219⟩, st219⟩ := X218.privateBack hx (y := (⟨"com/example/podflow/podflow/simulation/Ballot", "settle", "(I)V"⟩ : MethodName)) hown (mvT hZ (hw _ (List.mem_of_getElem? (i := 91) rfl))) (mvT hZ (hw _ (List.mem_of_getElem? (i := 92) rfl))) (own_selp (mvT hZ (hw _ (List.mem_of_getElem? (i := 29) rfl))) (mvT hZ (hw _ (List.mem_of_getElem? (i := 92) rfl))) (Cond.privateMethod_at (mvP hZ (hw _ (List.mem_of_getElem? (i := 93) rfl)) (args := #[]))) (by decide)) (Cond.privateMethod_at (mvP hZ (hw _ (List.mem_of_getElem? (i := 93) rfl)) (args := #[]))) (mvT hZ (hw _ (List.mem_of_getElem? (i := 94) rfl))) (by decide) (backOf (W := 0) (rm12 l Z a0 hw [] a1 (f10 w_emptyFrom_a2) w_ia w_ic w_op w_se w_sh w_ol w_al w_co w_unsettled_a1 z_w_sh (f8_A_w_sh_130 w_vehicle_a2 w_emptyTo_a2 c_w_ia c_w_sh c_w_co) z_w_ic c_w_ic z_w_ol (f8_A_w_ol_72 w_vehicle_a2 w_emptyFrom_a2 w_emptyTo_a2 c_w_ia c_w_ol) z_w_se (f8_A_w_se_130 w_vehicle_a2 w_emptyTo_a2 c_w_ia c_w_se c_w_co) z_w_op c_w_op h193 n0 c194 c195 g_a1 c200 c201 c202 c203 c204 c205 c206 c207 c208 c213 c210 c214 c212 c211 g_w_op ne_a1_w_op hf ⟨hl.2.2.2.2.1, hl.2.1, hl.2.2.2.2.2.1, hl.2.2.2.1, hl.2.2.1⟩) hZ (hw _ (List.mem_of_getElem? (i := 94) rfl)) (hw _ (List.mem_of_getElem? (i := 30) rfl)) (by decide) (by decide)) (g := (mkF m 132 #[.val (.ref a1), .val (.ref a2), .val (.int (f9 w_vehicle_a2)), .val (.int (f10 w_emptyFrom_a2)), .val (.int (f11 w_emptyTo_a2)), .val (.int (c_w_ia ((f9 w_vehicle_a2)).toNatClampNeg))] [(.int (f10 w_emptyFrom_a2)), (.ref a1)])) rfl (by rw [hml]; rfl) (Steps.refl _) (a := a1) (by rw [e218]; exact q219) q219' (argsL := [(.int (f10 w_emptyFrom_a2))]) (rest := []) (lenOf pd_3 rfl) rfl (by show 2 * 0 + _ ≤ _; exact Nat.le_of_eq rfl) (hb hby d8_132) (fun _ _ => ⟨rfl, e218, (by decide : 0 + 0 ≤ _), (by decide : 0 + 0 ≤ _)⟩)
  dsimp only [Pt.U, Pt.locs, Pt.cells, Pt.slots] at X219 l219 y219 z219 st219 hQ219
  subst l219 y219 z219
  obtain ⟨rfl, N219q, K219, o219_0, o219_1, o219_2, o219_3, o219_4, o219_5, o219_6, o219_7, o219_8, o219_9⟩ := hQ219
  have N219 := Fr.app N218 N219q
  have c220 : n0 ≤ T219.heap.size := Nat.le_trans c194 K219.1
  have c221 : Exa Z T219.heap a1 "com/example/podflow/podflow/simulation/Ballot" := c195.keep K219
  have c222 : Exa Z T219.heap a2 "com/example/podflow/podflow/simulation/Pickup" := c196.keep K219
  have c223 : Fld Z T219.heap a2 "com/example/podflow/podflow/simulation/Pickup" "vehicle" "I" (.int w_vehicle_a2) := c197.keep K219 (ninS ne_a2_a1 (ninS ne_a2_w_op nin0))
  have c224 : Fld Z T219.heap a2 "com/example/podflow/podflow/simulation/Pickup" "emptyFrom" "I" (.int w_emptyFrom_a2) := c198.keep K219 (ninS ne_a2_a1 (ninS ne_a2_w_op nin0))
  have c225 : Fld Z T219.heap a2 "com/example/podflow/podflow/simulation/Pickup" "emptyTo" "I" (.int w_emptyTo_a2) := c199.keep K219 (ninS ne_a2_a1 (ninS ne_a2_w_op nin0))
  have c226 : Fld Z T219.heap a1 "com/example/podflow/podflow/simulation/Ballot" "idleAt" "[I" (.ref w_ia) := o219_0
  have c227 : Fld Z T219.heap a1 "com/example/podflow/podflow/simulation/Ballot" "idleCount" "[I" (.ref w_ic) := o219_1
  have c228 : Fld Z T219.heap a1 "com/example/podflow/podflow/simulation/Ballot" "open" "[Z" (.ref w_op) := o219_2
  have c229 : Fld Z T219.heap a1 "com/example/podflow/podflow/simulation/Ballot" "served" "[I" (.ref w_se) := o219_3
  have c230 : Fld Z T219.heap a1 "com/example/podflow/podflow/simulation/Ballot" "servedHome" "[I" (.ref w_sh) := o219_4
  have c231 : Fld Z T219.heap a1 "com/example/podflow/podflow/simulation/Ballot" "ownLeaving" "[I" (.ref w_ol) := o219_5
  have c232 : Fld Z T219.heap a1 "com/example/podflow/podflow/simulation/Ballot" "anyLeaving" "[I" (.ref w_al) := o219_6
  have c233 : Fld Z T219.heap a1 "com/example/podflow/podflow/simulation/Ballot" "counted" "[Z" (.ref w_co) := o219_7
  have c234 : Fld Z T219.heap a1 "com/example/podflow/podflow/simulation/Ballot" "unsettled" "I" (.int (f12_o8 (f10 w_emptyFrom_a2) w_unsettled_a1 z_w_sh (f8_A_w_sh_130 w_vehicle_a2 w_emptyTo_a2 c_w_ia c_w_sh c_w_co) z_w_ic c_w_ic z_w_ol (f8_A_w_ol_72 w_vehicle_a2 w_emptyFrom_a2 w_emptyTo_a2 c_w_ia c_w_ol) z_w_se (f8_A_w_se_130 w_vehicle_a2 w_emptyTo_a2 c_w_ia c_w_se c_w_co) z_w_op c_w_op)) := o219_8
  have c235 : IAr Z T219.heap w_ia .int z_w_ia c_w_ia := c209.keep K219 (ninS ne_w_ia_a1 (ninS ne_w_ia_w_op nin0))
  have c236 : IAr Z T219.heap w_ic .int z_w_ic c_w_ic := c210.keep K219 (ninS ne_w_ic_a1 (ninS ne_w_ic_w_op nin0))
  have c237 : IAr Z T219.heap w_op .boolean z_w_op (f12_o9 (f10 w_emptyFrom_a2) w_unsettled_a1 z_w_sh (f8_A_w_sh_130 w_vehicle_a2 w_emptyTo_a2 c_w_ia c_w_sh c_w_co) z_w_ic c_w_ic z_w_ol (f8_A_w_ol_72 w_vehicle_a2 w_emptyFrom_a2 w_emptyTo_a2 c_w_ia c_w_ol) z_w_se (f8_A_w_se_130 w_vehicle_a2 w_emptyTo_a2 c_w_ia c_w_se c_w_co) z_w_op c_w_op) := o219_9
  have c238 : IAr Z T219.heap w_se .int z_w_se (f8_A_w_se_130 w_vehicle_a2 w_emptyTo_a2 c_w_ia c_w_se c_w_co) := c212.keep K219 (ninS (Ne.symm ne_a1_w_se) (ninS (Ne.symm ne_w_op_w_se) nin0))
  have c239 : IAr Z T219.heap w_sh .int z_w_sh (f8_A_w_sh_130 w_vehicle_a2 w_emptyTo_a2 c_w_ia c_w_sh c_w_co) := c213.keep K219 (ninS (Ne.symm ne_a1_w_sh) (ninS (Ne.symm ne_w_op_w_sh) nin0))
  have c240 : IAr Z T219.heap w_ol .int z_w_ol (f8_A_w_ol_72 w_vehicle_a2 w_emptyFrom_a2 w_emptyTo_a2 c_w_ia c_w_ol) := c214.keep K219 (ninS (Ne.symm ne_a1_w_ol) (ninS (Ne.symm ne_w_op_w_ol) nin0))
  have c241 : IAr Z T219.heap w_al .int z_w_al (f8_A_w_al_39 w_emptyFrom_a2 w_emptyTo_a2 c_w_al) := c215.keep K219 (ninS (Ne.symm ne_a1_w_al) (ninS (Ne.symm ne_w_op_w_al) nin0))
  have c242 : IAr Z T219.heap w_co .boolean z_w_co (f8_A_w_co_130 w_vehicle_a2 w_emptyTo_a2 c_w_ia c_w_co) := c216.keep K219 (ninS (Ne.symm ne_a1_w_co) (ninS (Ne.symm ne_w_op_w_co) nin0))
  have c243 : Keep h0 T219.heap [a1, w_op, w_se, w_sh, w_ol, w_al, w_co] := c217.trans K219 (allS (Or.inl (List.mem_of_getElem? (i := 0) rfl)) (allS (Or.inl (List.mem_of_getElem? (i := 1) rfl)) all0))
  have eq31 : (f8_o8 w_vehicle_a2 w_emptyFrom_a2 w_emptyTo_a2 w_unsettled_a1 z_w_ia c_w_ia z_w_ic c_w_ic z_w_op c_w_op z_w_se c_w_se z_w_sh c_w_sh z_w_ol c_w_ol z_w_al c_w_al z_w_co c_w_co) = (f12_o8 (f10 w_emptyFrom_a2) w_unsettled_a1 z_w_sh (f8_A_w_sh_130 w_vehicle_a2 w_emptyTo_a2 c_w_ia c_w_sh c_w_co) z_w_ic c_w_ic z_w_ol (f8_A_w_ol_72 w_vehicle_a2 w_emptyFrom_a2 w_emptyTo_a2 c_w_ia c_w_ol) z_w_se (f8_A_w_se_130 w_vehicle_a2 w_emptyTo_a2 c_w_ia c_w_se c_w_co) z_w_op c_w_op) := rfl
  have eq32 : (f8_o9 w_vehicle_a2 w_emptyFrom_a2 w_emptyTo_a2 w_unsettled_a1 z_w_ia c_w_ia z_w_ic c_w_ic z_w_op c_w_op z_w_se c_w_se z_w_sh c_w_sh z_w_ol c_w_ol z_w_al c_w_al z_w_co c_w_co) = (f12_o9 (f10 w_emptyFrom_a2) w_unsettled_a1 z_w_sh (f8_A_w_sh_130 w_vehicle_a2 w_emptyTo_a2 c_w_ia c_w_sh c_w_co) z_w_ic c_w_ic z_w_ol (f8_A_w_ol_72 w_vehicle_a2 w_emptyFrom_a2 w_emptyTo_a2 c_w_ia c_w_ol) z_w_se (f8_A_w_se_130 w_vehicle_a2 w_emptyTo_a2 c_w_ia c_w_se c_w_co) z_w_op c_w_op) := rfl
  have eq33 : (f8_o10 w_vehicle_a2 w_emptyFrom_a2 w_emptyTo_a2 w_unsettled_a1 z_w_ia c_w_ia z_w_ic c_w_ic z_w_op c_w_op z_w_se c_w_se z_w_sh c_w_sh z_w_ol c_w_ol z_w_al c_w_al z_w_co c_w_co) = (f8_A_w_se_130 w_vehicle_a2 w_emptyTo_a2 c_w_ia c_w_se c_w_co) := rfl
  have eq34 : (f8_o11 w_vehicle_a2 w_emptyFrom_a2 w_emptyTo_a2 w_unsettled_a1 z_w_ia c_w_ia z_w_ic c_w_ic z_w_op c_w_op z_w_se c_w_se z_w_sh c_w_sh z_w_ol c_w_ol z_w_al c_w_al z_w_co c_w_co) = (f8_A_w_sh_130 w_vehicle_a2 w_emptyTo_a2 c_w_ia c_w_sh c_w_co) := rfl
  have eq35 : (f8_o12 w_vehicle_a2 w_emptyFrom_a2 w_emptyTo_a2 w_unsettled_a1 z_w_ia c_w_ia z_w_ic c_w_ic z_w_op c_w_op z_w_se c_w_se z_w_sh c_w_sh z_w_ol c_w_ol z_w_al c_w_al z_w_co c_w_co) = (f8_A_w_ol_72 w_vehicle_a2 w_emptyFrom_a2 w_emptyTo_a2 c_w_ia c_w_ol) := rfl
  have eq36 : (f8_o13 w_vehicle_a2 w_emptyFrom_a2 w_emptyTo_a2 w_unsettled_a1 z_w_ia c_w_ia z_w_ic c_w_ic z_w_op c_w_op z_w_se c_w_se z_w_sh c_w_sh z_w_ol c_w_ol z_w_al c_w_al z_w_co c_w_co) = (f8_A_w_al_39 w_emptyFrom_a2 w_emptyTo_a2 c_w_al) := rfl
  have eq37 : (f8_o14 w_vehicle_a2 w_emptyFrom_a2 w_emptyTo_a2 w_unsettled_a1 z_w_ia c_w_ia z_w_ic c_w_ic z_w_op c_w_op z_w_se c_w_se z_w_sh c_w_sh z_w_ol c_w_ol z_w_al c_w_al z_w_co c_w_co) = (f8_A_w_co_130 w_vehicle_a2 w_emptyTo_a2 c_w_ia c_w_co) := rfl
  obtain ⟨fs, hr, hrun, hended, hW, hsame⟩ := X219.leave (v := none) (fun _ => rfl)
  refine ⟨_, _, pre16 _ ?_, hrun, hended, _, _, rfl, ?_, ⟨_, rfl⟩, hW, hsame.mono (by decide) (by decide)⟩
  · show Steps p.tables e below (T218.setTop (mkF m 130 #[.val (.ref a1), .val (.ref a2), .val (.int (f9 w_vehicle_a2)), .val (.int (f10 w_emptyFrom_a2)), .val (.int (f11 w_emptyTo_a2)), .val (.int (c_w_ia ((f9 w_vehicle_a2)).toNatClampNeg))] [])) _
    refine XS.aloadN X218.here hx rfl (hb hby d8_130) rfl rfl ?_
    refine XS.iloadN X218.here hx rfl (hb hby d8_131) rfl ?_
    show Steps p.tables e below (T218.setTop (mkF m 132 #[.val (.ref a1), .val (.ref a2), .val (.int (f9 w_vehicle_a2)), .val (.int (f10 w_emptyFrom_a2)), .val (.int (f11 w_emptyTo_a2)), .val (.int (c_w_ia ((f9 w_vehicle_a2)).toNatClampNeg))] [(.int (f10 w_emptyFrom_a2)), (.ref a1)])) _
    refine st219.trans ?_
    show Steps p.tables e below (T219.setTop (mkF m 135 #[.val (.ref a1), .val (.ref a2), .val (.int (f9 w_vehicle_a2)), .val (.int (f10 w_emptyFrom_a2)), .val (.int (f11 w_emptyTo_a2)), .val (.int (c_w_ia ((f9 w_vehicle_a2)).toNatClampNeg))] [])) _
    exact X219.returnOut hx Bd.returns (hb hby d8_135) hr
  · show Q8 Z a1 a2 w_vehicle_a2 w_emptyFrom_a2 w_emptyTo_a2 w_ia w_ic w_op w_se w_sh w_ol w_al w_co w_unsettled_a1 z_w_ia c_w_ia z_w_ic c_w_ic z_w_op c_w_op z_w_se c_w_se z_w_sh c_w_sh z_w_ol c_w_ol z_w_al c_w_al z_w_co c_w_co h0 n0 _ T219.heap _
    exact ⟨rfl, N219, c243, c226, c227, c228, c229, c230, c231, c232, c233, (by rw [eq31]; exact c234), (by rw [eq32]; exact c237), (by rw [eq33]; exact c238), (by rw [eq34]; exact c239), (by rw [eq35]; exact c240), (by rw [eq36]; exact c241), (by rw [eq37]; exact c242)⟩
theorem d7_0 : decode prog_56_method_4_code 0 = .ok (.aload_n 0, 1) := by decide +kernel
theorem d7_1 : decode prog_56_method_4_code 1 = .ok (.getfield 28, 3) := by decide +kernel
theorem d7_4 : decode prog_56_method_4_code 4 = .ok (.iload_n 1, 1) := by decide +kernel
theorem d7_5 : decode prog_56_method_4_code 5 = .ok (.iaload, 1) := by decide +kernel
theorem d7_6 : decode prog_56_method_4_code 6 = .ok (.aload_n 0, 1) := by decide +kernel
theorem d7_7 : decode prog_56_method_4_code 7 = .ok (.getfield 13, 3) := by decide +kernel
theorem d7_10 : decode prog_56_method_4_code 10 = .ok (.iload_n 1, 1) := by decide +kernel
theorem d7_11 : decode prog_56_method_4_code 11 = .ok (.iaload, 1) := by decide +kernel
theorem d7_12 : decode prog_56_method_4_code 12 = .ok (.if_icmp .ne 5, 3) := by decide +kernel
theorem d7_15 : decode prog_56_method_4_code 15 = .ok (.iload_n 1, 1) := by decide +kernel
theorem d7_16 : decode prog_56_method_4_code 16 = .ok (.ireturn, 1) := by decide +kernel
theorem d7_17 : decode prog_56_method_4_code 17 = .ok (.aload_n 0, 1) := by decide +kernel
theorem d7_18 : decode prog_56_method_4_code 18 = .ok (.getfield 31, 3) := by decide +kernel
theorem d7_21 : decode prog_56_method_4_code 21 = .ok (.iload_n 1, 1) := by decide +kernel
theorem d7_22 : decode prog_56_method_4_code 22 = .ok (.iaload, 1) := by decide +kernel
theorem d7_23 : decode prog_56_method_4_code 23 = .ok (.ifCond .lt 10, 3) := by decide +kernel
theorem d7_26 : decode prog_56_method_4_code 26 = .ok (.aload_n 0, 1) := by decide +kernel
theorem d7_27 : decode prog_56_method_4_code 27 = .ok (.getfield 31, 3) := by decide +kernel
theorem d7_30 : decode prog_56_method_4_code 30 = .ok (.iload_n 1, 1) := by decide +kernel
theorem d7_31 : decode prog_56_method_4_code 31 = .ok (.iaload, 1) := by decide +kernel
theorem d7_32 : decode prog_56_method_4_code 32 = .ok (.ireturn, 1) := by decide +kernel
theorem d7_33 : decode prog_56_method_4_code 33 = .ok (.aload_n 0, 1) := by decide +kernel
theorem d7_34 : decode prog_56_method_4_code 34 = .ok (.getfield 34, 3) := by decide +kernel
theorem d7_37 : decode prog_56_method_4_code 37 = .ok (.iload_n 1, 1) := by decide +kernel
theorem d7_38 : decode prog_56_method_4_code 38 = .ok (.iaload, 1) := by decide +kernel
theorem d7_39 : decode prog_56_method_4_code 39 = .ok (.ifCond .lt 10, 3) := by decide +kernel
theorem d7_42 : decode prog_56_method_4_code 42 = .ok (.aload_n 0, 1) := by decide +kernel
theorem d7_43 : decode prog_56_method_4_code 43 = .ok (.getfield 34, 3) := by decide +kernel
theorem d7_46 : decode prog_56_method_4_code 46 = .ok (.iload_n 1, 1) := by decide +kernel
theorem d7_47 : decode prog_56_method_4_code 47 = .ok (.iaload, 1) := by decide +kernel
theorem d7_48 : decode prog_56_method_4_code 48 = .ok (.ireturn, 1) := by decide +kernel
theorem d7_49 : decode prog_56_method_4_code 49 = .ok (.iload_n 1, 1) := by decide +kernel
theorem d7_50 : decode prog_56_method_4_code 50 = .ok (.ireturn, 1) := by decide +kernel
theorem ef_7 (m : MethodId) (x0 : Addr) (x1 : Int32) : entryFrame m #[(.ref x0), (.int x1)] 2 = mkF m 0 #[.val (.ref x0), .val (.int x1)] [] := by first | (simp [entryFrame, mkF, argsToLocals, Value.category]; done) | rfl
def f7 (p2 : Int32) (z_w_sh : Int32) (c_w_sh : Nat → Int32) (z_w_ic : Int32) (c_w_ic : Nat → Int32) (z_w_ol : Int32) (c_w_ol : Nat → Int32) (z_w_al : Int32) (c_w_al : Nat → Int32) : Int32 := (if (c_w_sh (p2).toNatClampNeg) = (c_w_ic (p2).toNatClampNeg) then p2 else (if (c_w_ol (p2).toNatClampNeg) < (0 : Int32) then (if (c_w_al (p2).toNatClampNeg) < (0 : Int32) then p2 else (c_w_al (p2).toNatClampNeg)) else (c_w_ol (p2).toNatClampNeg)))
def Q7 (Z : State) (a1 : Addr) (p2 : Int32) (w_sh : Addr) (w_ic : Addr) (w_ol : Addr) (w_al : Addr) (z_w_sh : Int32) (c_w_sh : Nat → Int32) (z_w_ic : Int32) (c_w_ic : Nat → Int32) (z_w_ol : Int32) (c_w_ol : Nat → Int32) (z_w_al : Int32) (c_w_al : Nat → Int32) (h0 : Heap) (n0 : Nat) (v : Option Value) (h : Heap) (L : List Loc) : Prop := v = some (.int (f7 p2 z_w_sh c_w_sh z_w_ic c_w_ic z_w_ol c_w_ol z_w_al c_w_al)) ∧ Fr n0 L ∧ h = h0
set_option maxRecDepth 65536 in
set_option maxHeartbeats 40000000 in
theorem rm7 (l : Launch) (Z : State) (a0 : Array Value) (hw : ∀ d ∈ tables_1, d.before a0 Z = true) (ws : List Jvm.Cond) (a1 : Addr) (p2 : Int32) (w_sh : Addr) (w_ic : Addr) (w_ol : Addr) (w_al : Addr) (z_w_sh : Int32) (c_w_sh : Nat → Int32) (z_w_ic : Int32) (c_w_ic : Nat → Int32) (z_w_ol : Int32) (c_w_ol : Nat → Int32) (z_w_al : Int32) (c_w_al : Nat → Int32) (h0 : Heap) (n0 : Nat) (Z0 : n0 ≤ h0.size) (F_servedHome_a1 : Fld Z h0 a1 "com/example/podflow/podflow/simulation/Ballot" "servedHome" "[I" (.ref w_sh)) (F_idleCount_a1 : Fld Z h0 a1 "com/example/podflow/podflow/simulation/Ballot" "idleCount" "[I" (.ref w_ic)) (F_ownLeaving_a1 : Fld Z h0 a1 "com/example/podflow/podflow/simulation/Ballot" "ownLeaving" "[I" (.ref w_ol)) (F_anyLeaving_a1 : Fld Z h0 a1 "com/example/podflow/podflow/simulation/Ballot" "anyLeaving" "[I" (.ref w_al)) (V_w_sh : IAr Z h0 w_sh .int z_w_sh c_w_sh) (V_w_ic : IAr Z h0 w_ic .int z_w_ic c_w_ic) (V_w_ol : IAr Z h0 w_ol .int z_w_ol c_w_ol) (V_w_al : IAr Z h0 w_al .int z_w_al c_w_al) (hp : 0 ≤ p2.toInt ∧ p2.toInt < 3) (hl : z_w_sh = 3 ∧ z_w_ic = 3 ∧ z_w_ol = 3 ∧ z_w_al = 3) :
    MetFree l (⟨"com/example/podflow/podflow/simulation/Ballot", "vote", "(I)I"⟩ : MethodName) (head1 (Jvm.Cond.code (⟨"com/example/podflow/podflow/simulation/Ballot", "vote", "(I)I"⟩ : MethodName) prog_56_method_4_code 2 (some .int) :: ws) ({ frames := 0, cells := 0, slots := 0, locals := 0 } : Room)) (fun a U => a = #[(.ref a1), (.int p2)] ∧ Z.Warmed39 U.vm ∧ U.heap = h0) (fun _ _ _ _ _ => True) (fun _ U o U' => ∃ v L, o = .returned v ∧ Q7 Z a1 p2 w_sh w_ic w_ol w_al z_w_sh c_w_sh z_w_ic c_w_ic z_w_ol c_w_ol z_w_al c_w_al h0 n0 v U'.heap L ∧ FrameEnd U o U' L ({ frames := 0, cells := 0, slots := 0, locals := 0 } : Room).cells ({ frames := 0, cells := 0, slots := 0, locals := 0 } : Room).slots) := by
  refine MetFree.of_bodySF (plainFor_of_name pn_4) hisR ?_
  intro p e s m args below meth c s₁ Bd hml0 hP hK
  obtain ⟨rfl, hZ, hh⟩ := hP
  have hx := Bd.exec
  have hby := Bd.bytes
  have hml : c.maxLocals = 2 := hml0
  have hown : s.vm.findClass "com/example/podflow/podflow/simulation/Ballot" = some m.cls := findClass_of_methodNamed Bd.named
  have hnm := (name_of_methodNamed Bd.named Bd.method).1
  have X0 : Stand p l e ({ frames := 0, cells := 0, slots := 0, locals := 0 } : Room) s m #[(.ref a1), (.int p2)] below meth c s₁ [] 0 0 := Stand.of_body Bd
  have e0 : s₁.heap = h0 := by rw [← hh, Bd.state]; rfl
  have N0 := Fr.nil n0
  have pre0 : ∀ t, Steps p.tables e below (s₁.setTop (mkF m 0 #[.val (.ref a1), .val (.int p2)] [])) t → Steps p.tables e below (s₁.setTop (entryFrame m #[(.ref a1), (.int p2)] 2)) t := fun t k => castTop (ef_7 m a1 p2) k
  obtain ⟨T3, X3, e3, st3⟩ := getF X0 hx hZ hown (host := "") (Or.inl (hw _ (List.mem_of_getElem? (i := 52) rfl))) Via.refl e0 F_servedHome_a1 (g := (mkF m 1 #[.val (.ref a1), .val (.int p2)] [(.ref a1)])) rfl rfl (hb hby d7_1)
  obtain ⟨T4, X4, e4, st4⟩ := getF X3 hx hZ hown (host := "") (Or.inl (hw _ (List.mem_of_getElem? (i := 37) rfl))) Via.refl e3 F_idleCount_a1 (g := (mkF m 7 #[.val (.ref a1), .val (.int p2)] [(.ref a1), (.int (c_w_sh (p2).toNatClampNeg))])) rfl rfl (hb hby d7_7)
  have pre1 : ∀ t, Steps p.tables e below (T4.setTop (mkF m 12 #[.val (.ref a1), .val (.int p2)] [(.int (c_w_ic (p2).toNatClampNeg)), (.int (c_w_sh (p2).toNatClampNeg))])) t → Steps p.tables e below (s₁.setTop (entryFrame m #[(.ref a1), (.int p2)] 2)) t := by
    intro t k
    refine pre0 t ?_
    refine XS.aloadN X0.here hx rfl (hb hby d7_0) rfl rfl ?_
    show Steps p.tables e below (s₁.setTop (mkF m 1 #[.val (.ref a1), .val (.int p2)] [(.ref a1)])) _
    refine st3 _ ?_
    show Steps p.tables e below (T3.setTop (mkF m 4 #[.val (.ref a1), .val (.int p2)] [(.ref w_sh)])) _
    refine XS.iloadN X3.here hx rfl (hb hby d7_4) rfl ?_
    show Steps p.tables e below (T3.setTop (mkF m 5 #[.val (.ref a1), .val (.int p2)] [(.int p2), (.ref w_sh)])) _
    refine ldI X3 hx hZ e3 V_w_sh (j := p2) (own_i3 hp hl.1) (g := (mkF m 5 #[.val (.ref a1), .val (.int p2)] [(.int p2), (.ref w_sh)])) rfl rfl (hb hby d7_5) ?_
    show Steps p.tables e below (T3.setTop (mkF m 6 #[.val (.ref a1), .val (.int p2)] [(.int (c_w_sh (p2).toNatClampNeg))])) _
    refine XS.aloadN X3.here hx rfl (hb hby d7_6) rfl rfl ?_
    show Steps p.tables e below (T3.setTop (mkF m 7 #[.val (.ref a1), .val (.int p2)] [(.ref a1), (.int (c_w_sh (p2).toNatClampNeg))])) _
    refine st4 _ ?_
    show Steps p.tables e below (T4.setTop (mkF m 10 #[.val (.ref a1), .val (.int p2)] [(.ref w_ic), (.int (c_w_sh (p2).toNatClampNeg))])) _
    refine XS.iloadN X4.here hx rfl (hb hby d7_10) rfl ?_
    show Steps p.tables e below (T4.setTop (mkF m 11 #[.val (.ref a1), .val (.int p2)] [(.int p2), (.ref w_ic), (.int (c_w_sh (p2).toNatClampNeg))])) _
    refine ldI X4 hx hZ e4 V_w_ic (j := p2) (own_i3 hp hl.2.1) (g := (mkF m 11 #[.val (.ref a1), .val (.int p2)] [(.int p2), (.ref w_ic), (.int (c_w_sh (p2).toNatClampNeg))])) rfl rfl (hb hby d7_11) ?_
    exact k
  by_cases hc12 : (c_w_sh (p2).toNatClampNeg) = (c_w_ic (p2).toNatClampNeg)
  · have eq2 : (f7 p2 z_w_sh c_w_sh z_w_ic c_w_ic z_w_ol c_w_ol z_w_al c_w_al) = p2 := by unfold f7; simp only [if_pos hc12]
    obtain ⟨fs, hr, hrun, hended, hW, hsame⟩ := X4.leave (v := some (.int p2)) (fun h => by rw [Bd.returns] at h; cases h)
    refine ⟨_, _, pre1 _ ?_, hrun, hended, _, _, rfl, ?_, ⟨_, rfl⟩, hW, hsame.mono (by decide) (by decide)⟩
    · show Steps p.tables e below (T4.setTop (mkF m 12 #[.val (.ref a1), .val (.int p2)] [(.int (c_w_ic (p2).toNatClampNeg)), (.int (c_w_sh (p2).toNatClampNeg))])) _
      refine XS.icmpNo X4.here hx rfl (hb hby d7_12) rfl (teq hc12).2 ?_
      refine XS.iloadN X4.here hx rfl (hb hby d7_15) rfl ?_
      show Steps p.tables e below (T4.setTop (mkF m 16 #[.val (.ref a1), .val (.int p2)] [(.int p2)])) _
      exact retI X4 hx Bd.returns (hb hby d7_16) hr
    · show Q7 Z a1 p2 w_sh w_ic w_ol w_al z_w_sh c_w_sh z_w_ic c_w_ic z_w_ol c_w_ol z_w_al c_w_al h0 n0 _ T4.heap _
      rw [e4]
      exact ⟨by rw [eq2], N0, rfl⟩
  · obtain ⟨T5, X5, e5, st5⟩ := getF X4 hx hZ hown (host := "") (Or.inl (hw _ (List.mem_of_getElem? (i := 54) rfl))) Via.refl e4 F_ownLeaving_a1 (g := (mkF m 18 #[.val (.ref a1), .val (.int p2)] [(.ref a1)])) rfl rfl (hb hby d7_18)
    have pre3 : ∀ t, Steps p.tables e below (T5.setTop (mkF m 23 #[.val (.ref a1), .val (.int p2)] [(.int (c_w_ol (p2).toNatClampNeg))])) t → Steps p.tables e below (s₁.setTop (entryFrame m #[(.ref a1), (.int p2)] 2)) t := by
      intro t k
      refine pre1 t ?_
      refine XS.icmpYes X4.here hx rfl (pc0 := 12) (pc' := 17) rfl (hb hby d7_12) rfl (feq hc12).2 (by decide) (by decide) ?_
      refine XS.aloadN X4.here hx rfl (hb hby d7_17) rfl rfl ?_
      show Steps p.tables e below (T4.setTop (mkF m 18 #[.val (.ref a1), .val (.int p2)] [(.ref a1)])) _
      refine st5 _ ?_
      show Steps p.tables e below (T5.setTop (mkF m 21 #[.val (.ref a1), .val (.int p2)] [(.ref w_ol)])) _
      refine XS.iloadN X5.here hx rfl (hb hby d7_21) rfl ?_
      show Steps p.tables e below (T5.setTop (mkF m 22 #[.val (.ref a1), .val (.int p2)] [(.int p2), (.ref w_ol)])) _
      refine ldI X5 hx hZ e5 V_w_ol (j := p2) (own_i3 hp hl.2.2.1) (g := (mkF m 22 #[.val (.ref a1), .val (.int p2)] [(.int p2), (.ref w_ol)])) rfl rfl (hb hby d7_22) ?_
      exact k
    by_cases hc23 : (c_w_ol (p2).toNatClampNeg) < (0 : Int32)
    · obtain ⟨T6, X6, e6, st6⟩ := getF X5 hx hZ hown (host := "") (Or.inl (hw _ (List.mem_of_getElem? (i := 56) rfl))) Via.refl e5 F_anyLeaving_a1 (g := (mkF m 34 #[.val (.ref a1), .val (.int p2)] [(.ref a1)])) rfl rfl (hb hby d7_34)
      have pre4 : ∀ t, Steps p.tables e below (T6.setTop (mkF m 39 #[.val (.ref a1), .val (.int p2)] [(.int (c_w_al (p2).toNatClampNeg))])) t → Steps p.tables e below (s₁.setTop (entryFrame m #[(.ref a1), (.int p2)] 2)) t := by
        intro t k
        refine pre3 t ?_
        refine XS.ifYes X5.here hx rfl (pc0 := 23) (pc' := 33) rfl (hb hby d7_23) rfl ((if0 _ _).trans (tlt hc23).1) (by decide) (by decide) ?_
        refine XS.aloadN X5.here hx rfl (hb hby d7_33) rfl rfl ?_
        show Steps p.tables e below (T5.setTop (mkF m 34 #[.val (.ref a1), .val (.int p2)] [(.ref a1)])) _
        refine st6 _ ?_
        show Steps p.tables e below (T6.setTop (mkF m 37 #[.val (.ref a1), .val (.int p2)] [(.ref w_al)])) _
        refine XS.iloadN X6.here hx rfl (hb hby d7_37) rfl ?_
        show Steps p.tables e below (T6.setTop (mkF m 38 #[.val (.ref a1), .val (.int p2)] [(.int p2), (.ref w_al)])) _
        refine ldI X6 hx hZ e6 V_w_al (j := p2) (own_i3 hp hl.2.2.2) (g := (mkF m 38 #[.val (.ref a1), .val (.int p2)] [(.int p2), (.ref w_al)])) rfl rfl (hb hby d7_38) ?_
        exact k
      by_cases hc39 : (c_w_al (p2).toNatClampNeg) < (0 : Int32)
      · have eq5 : (f7 p2 z_w_sh c_w_sh z_w_ic c_w_ic z_w_ol c_w_ol z_w_al c_w_al) = p2 := by unfold f7; simp only [if_neg hc12, if_pos hc23, if_pos hc39]
        obtain ⟨fs, hr, hrun, hended, hW, hsame⟩ := X6.leave (v := some (.int p2)) (fun h => by rw [Bd.returns] at h; cases h)
        refine ⟨_, _, pre4 _ ?_, hrun, hended, _, _, rfl, ?_, ⟨_, rfl⟩, hW, hsame.mono (by decide) (by decide)⟩
        · show Steps p.tables e below (T6.setTop (mkF m 39 #[.val (.ref a1), .val (.int p2)] [(.int (c_w_al (p2).toNatClampNeg))])) _
          refine XS.ifYes X6.here hx rfl (pc0 := 39) (pc' := 49) rfl (hb hby d7_39) rfl ((if0 _ _).trans (tlt hc39).1) (by decide) (by decide) ?_
          refine XS.iloadN X6.here hx rfl (hb hby d7_49) rfl ?_
          show Steps p.tables e below (T6.setTop (mkF m 50 #[.val (.ref a1), .val (.int p2)] [(.int p2)])) _
          exact retI X6 hx Bd.returns (hb hby d7_50) hr
        · show Q7 Z a1 p2 w_sh w_ic w_ol w_al z_w_sh c_w_sh z_w_ic c_w_ic z_w_ol c_w_ol z_w_al c_w_al h0 n0 _ T6.heap _
          rw [e6]
          exact ⟨by rw [eq5], N0, rfl⟩
      · obtain ⟨T7, X7, e7, st7⟩ := getF X6 hx hZ hown (host := "") (Or.inl (hw _ (List.mem_of_getElem? (i := 56) rfl))) Via.refl e6 F_anyLeaving_a1 (g := (mkF m 43 #[.val (.ref a1), .val (.int p2)] [(.ref a1)])) rfl rfl (hb hby d7_43)
        have eq6 : (f7 p2 z_w_sh c_w_sh z_w_ic c_w_ic z_w_ol c_w_ol z_w_al c_w_al) = (c_w_al (p2).toNatClampNeg) := by unfold f7; simp only [if_neg hc12, if_pos hc23, if_neg hc39]
        obtain ⟨fs, hr, hrun, hended, hW, hsame⟩ := X7.leave (v := some (.int (c_w_al (p2).toNatClampNeg))) (fun h => by rw [Bd.returns] at h; cases h)
        refine ⟨_, _, pre4 _ ?_, hrun, hended, _, _, rfl, ?_, ⟨_, rfl⟩, hW, hsame.mono (by decide) (by decide)⟩
        · show Steps p.tables e below (T6.setTop (mkF m 39 #[.val (.ref a1), .val (.int p2)] [(.int (c_w_al (p2).toNatClampNeg))])) _
          refine XS.ifNo X6.here hx rfl (hb hby d7_39) rfl ((if0 _ _).trans (flt hc39).1) ?_
          refine XS.aloadN X6.here hx rfl (hb hby d7_42) rfl rfl ?_
          show Steps p.tables e below (T6.setTop (mkF m 43 #[.val (.ref a1), .val (.int p2)] [(.ref a1)])) _
          refine st7 _ ?_
          show Steps p.tables e below (T7.setTop (mkF m 46 #[.val (.ref a1), .val (.int p2)] [(.ref w_al)])) _
          refine XS.iloadN X7.here hx rfl (hb hby d7_46) rfl ?_
          show Steps p.tables e below (T7.setTop (mkF m 47 #[.val (.ref a1), .val (.int p2)] [(.int p2), (.ref w_al)])) _
          refine ldI X7 hx hZ e7 V_w_al (j := p2) (own_i3 hp hl.2.2.2) (g := (mkF m 47 #[.val (.ref a1), .val (.int p2)] [(.int p2), (.ref w_al)])) rfl rfl (hb hby d7_47) ?_
          show Steps p.tables e below (T7.setTop (mkF m 48 #[.val (.ref a1), .val (.int p2)] [(.int (c_w_al (p2).toNatClampNeg))])) _
          exact retI X7 hx Bd.returns (hb hby d7_48) hr
        · show Q7 Z a1 p2 w_sh w_ic w_ol w_al z_w_sh c_w_sh z_w_ic c_w_ic z_w_ol c_w_ol z_w_al c_w_al h0 n0 _ T7.heap _
          rw [e7]
          exact ⟨by rw [eq6], N0, rfl⟩
    · obtain ⟨T8, X8, e8, st8⟩ := getF X5 hx hZ hown (host := "") (Or.inl (hw _ (List.mem_of_getElem? (i := 54) rfl))) Via.refl e5 F_ownLeaving_a1 (g := (mkF m 27 #[.val (.ref a1), .val (.int p2)] [(.ref a1)])) rfl rfl (hb hby d7_27)
      have eq7 : (f7 p2 z_w_sh c_w_sh z_w_ic c_w_ic z_w_ol c_w_ol z_w_al c_w_al) = (c_w_ol (p2).toNatClampNeg) := by unfold f7; simp only [if_neg hc12, if_neg hc23]
      obtain ⟨fs, hr, hrun, hended, hW, hsame⟩ := X8.leave (v := some (.int (c_w_ol (p2).toNatClampNeg))) (fun h => by rw [Bd.returns] at h; cases h)
      refine ⟨_, _, pre3 _ ?_, hrun, hended, _, _, rfl, ?_, ⟨_, rfl⟩, hW, hsame.mono (by decide) (by decide)⟩
      · show Steps p.tables e below (T5.setTop (mkF m 23 #[.val (.ref a1), .val (.int p2)] [(.int (c_w_ol (p2).toNatClampNeg))])) _
        refine XS.ifNo X5.here hx rfl (hb hby d7_23) rfl ((if0 _ _).trans (flt hc23).1) ?_
        refine XS.aloadN X5.here hx rfl (hb hby d7_26) rfl rfl ?_
        show Steps p.tables e below (T5.setTop (mkF m 27 #[.val (.ref a1), .val (.int p2)] [(.ref a1)])) _
        refine st8 _ ?_
        show Steps p.tables e below (T8.setTop (mkF m 30 #[.val (.ref a1), .val (.int p2)] [(.ref w_ol)])) _
        refine XS.iloadN X8.here hx rfl (hb hby d7_30) rfl ?_
        show Steps p.tables e below (T8.setTop (mkF m 31 #[.val (.ref a1), .val (.int p2)] [(.int p2), (.ref w_ol)])) _
        refine ldI X8 hx hZ e8 V_w_ol (j := p2) (own_i3 hp hl.2.2.1) (g := (mkF m 31 #[.val (.ref a1), .val (.int p2)] [(.int p2), (.ref w_ol)])) rfl rfl (hb hby d7_31) ?_
        show Steps p.tables e below (T8.setTop (mkF m 32 #[.val (.ref a1), .val (.int p2)] [(.int (c_w_ol (p2).toNatClampNeg))])) _
        exact retI X8 hx Bd.returns (hb hby d7_32) hr
      · show Q7 Z a1 p2 w_sh w_ic w_ol w_al z_w_sh c_w_sh z_w_ic c_w_ic z_w_ol c_w_ol z_w_al c_w_al h0 n0 _ T8.heap _
        rw [e8]
        exact ⟨by rw [eq7], N0, rfl⟩
theorem pd_4 : parseMethodDescriptor "(IIII)I" = some ⟨[.int, .int, .int, .int], some .int⟩ := by decide +kernel
theorem pd_5 : parseMethodDescriptor "(IJII)V" = some ⟨[.int, .long, .int, .int], none⟩ := by decide +kernel
theorem pd_6 : parseMethodDescriptor "([I[I[Z)V" = some ⟨[(.array .int), (.array .int), (.array .boolean)], none⟩ := by decide +kernel
theorem pd_7 : parseMethodDescriptor "(Lcom/example/podflow/podflow/simulation/Pickup;)V" = some ⟨[(.object "com/example/podflow/podflow/simulation/Pickup")], none⟩ := by decide +kernel
theorem pd_8 : parseMethodDescriptor "(I)I" = some ⟨[.int], some .int⟩ := by decide +kernel
theorem pd_9 : parseMethodDescriptor "(IZIIZIIZII)I" = some ⟨[.int, .boolean, .int, .int, .boolean, .int, .int, .boolean, .int, .int], some .int⟩ := by decide +kernel
theorem ef_0 (m : MethodId) (x0 : Int32) (x1 : Int32) (x2 : Int32) (x3 : Int32) (x4 : Int32) : entryFrame m #[(.int x0), (.int x1), (.int x2), (.int x3), (.int x4)] maxLocals = mkF m 0 #[.val (.int x0), .val (.int x1), .val (.int x2), .val (.int x3), .val (.int x4), .unset, .unset, .unset, .unset, .unset, .unset, .unset, .unset, .unset, .unset, .unset, .unset, .unset, .unset, .unset, .unset, .unset, .unset, .unset, .unset, .unset, .unset, .unset, .unset, .unset, .unset, .unset, .unset, .unset] [] := by first | (simp [entryFrame, mkF, argsToLocals, Value.category, maxLocals]; done) | rfl
def f0_v14 (p1 : Int32) : Int32 := ((((p1.toUInt32 >>> ((2 : Int32) &&& 31).toUInt32).toInt32) &&& (3 : Int32)) - (1 : Int32))
def f0_v23 (p1 : Int32) : Int32 := ((((p1.toUInt32 >>> ((4 : Int32) &&& 31).toUInt32).toInt32) &&& (3 : Int32)) - (1 : Int32))
def f0_v32 (p1 : Int32) : Nat → Int32 := (ownU (fun _ => 0) ((0 : Int32)).toNatClampNeg ((p1 &&& (3 : Int32)) - (1 : Int32)))
def f0_v37 (p1 : Int32) : Nat → Int32 := (ownU (f0_v32 p1) ((1 : Int32)).toNatClampNeg (f0_v14 p1))
def f0_v42 (p1 : Int32) : Nat → Int32 := (ownU (f0_v37 p1) ((2 : Int32)).toNatClampNeg (f0_v23 p1))
def f0_v60 (p1 : Int32) : Nat → Int32 := (ownU (fun _ => 0) ((0 : Int32)).toNatClampNeg (f1 ((p1 &&& (3 : Int32)) - (1 : Int32)) (f0_v14 p1) (f0_v23 p1) (0 : Int32)))
def f0_v73 (p1 : Int32) : Nat → Int32 := (ownU (f0_v60 p1) ((1 : Int32)).toNatClampNeg (f1 ((p1 &&& (3 : Int32)) - (1 : Int32)) (f0_v14 p1) (f0_v23 p1) (1 : Int32)))
def f0_v86 (p1 : Int32) : Nat → Int32 := (ownU (f0_v73 p1) ((2 : Int32)).toNatClampNeg (f1 ((p1 &&& (3 : Int32)) - (1 : Int32)) (f0_v14 p1) (f0_v23 p1) (2 : Int32)))
def f0_s0_108 (p1 : Int32) : Int32 := (if (((p1.toUInt32 >>> ((6 : Int32) &&& 31).toUInt32).toInt32) &&& (1 : Int32)) = (0 : Int32) then (0 : Int32) else (1 : Int32))
def f0_v108 (p1 : Int32) : Nat → Int32 := (ownU (fun _ => 0) ((0 : Int32)).toNatClampNeg (nar .boolean (f0_s0_108 p1)))
def f0_s0_125 (p1 : Int32) : Int32 := (if (((p1.toUInt32 >>> ((7 : Int32) &&& 31).toUInt32).toInt32) &&& (1 : Int32)) = (0 : Int32) then (0 : Int32) else (1 : Int32))
def f0_v125 (p1 : Int32) : Nat → Int32 := (ownU (f0_v108 p1) ((1 : Int32)).toNatClampNeg (nar .boolean (f0_s0_125 p1)))
def f0_s0_142 (p1 : Int32) : Int32 := (if (((p1.toUInt32 >>> ((8 : Int32) &&& 31).toUInt32).toInt32) &&& (1 : Int32)) = (0 : Int32) then (0 : Int32) else (1 : Int32))
def f0_v142 (p1 : Int32) : Nat → Int32 := (ownU (f0_v125 p1) ((2 : Int32)).toNatClampNeg (nar .boolean (f0_s0_142 p1)))
def f0_v151 (p2 : Int32) : Int32 := ((p2 &&& (255 : Int32)) - ((p2 &&& (255 : Int32)) / (3 : Int32)) * (3 : Int32))
def f0_v163 (p2 : Int32) : Int32 := ((((p2.toUInt32 >>> ((8 : Int32) &&& 31).toUInt32).toInt32) &&& (255 : Int32)) - ((((p2.toUInt32 >>> ((8 : Int32) &&& 31).toUInt32).toInt32) &&& (255 : Int32)) / (3 : Int32)) * (3 : Int32))
def f0_v175 (p2 : Int32) : Int32 := ((((p2.toUInt32 >>> ((16 : Int32) &&& 31).toUInt32).toInt32) &&& (255 : Int32)) - ((((p2.toUInt32 >>> ((16 : Int32) &&& 31).toUInt32).toInt32) &&& (255 : Int32)) / (3 : Int32)) * (3 : Int32))
def f0_v184 (p3 : Int32) : Int32 := ((p3 &&& (255 : Int32)) - ((p3 &&& (255 : Int32)) / (3 : Int32)) * (3 : Int32))
def f0_v196 (p3 : Int32) : Int32 := ((((p3.toUInt32 >>> ((8 : Int32) &&& 31).toUInt32).toInt32) &&& (255 : Int32)) - ((((p3.toUInt32 >>> ((8 : Int32) &&& 31).toUInt32).toInt32) &&& (255 : Int32)) / (3 : Int32)) * (3 : Int32))
def f0_v208 (p3 : Int32) : Int32 := ((((p3.toUInt32 >>> ((16 : Int32) &&& 31).toUInt32).toInt32) &&& (255 : Int32)) - ((((p3.toUInt32 >>> ((16 : Int32) &&& 31).toUInt32).toInt32) &&& (255 : Int32)) / (3 : Int32)) * (3 : Int32))
def f0_v217 (p4 : Int32) : Int32 := ((p4 &&& (255 : Int32)) - ((p4 &&& (255 : Int32)) / (3 : Int32)) * (3 : Int32))
def f0_v229 (p4 : Int32) : Int32 := ((((p4.toUInt32 >>> ((8 : Int32) &&& 31).toUInt32).toInt32) &&& (255 : Int32)) - ((((p4.toUInt32 >>> ((8 : Int32) &&& 31).toUInt32).toInt32) &&& (255 : Int32)) / (3 : Int32)) * (3 : Int32))
def f0_v241 (p4 : Int32) : Int32 := ((((p4.toUInt32 >>> ((16 : Int32) &&& 31).toUInt32).toInt32) &&& (255 : Int32)) - ((((p4.toUInt32 >>> ((16 : Int32) &&& 31).toUInt32).toInt32) &&& (255 : Int32)) / (3 : Int32)) * (3 : Int32))
def f0_v251 (p5 : Int32) : Int32 := ((p5 &&& (255 : Int32)) - ((p5 &&& (255 : Int32)) / (3 : Int32)) * (3 : Int32))
def f0_v261 (p5 : Int32) : Int32 := (((p5.toUInt32 >>> ((8 : Int32) &&& 31).toUInt32).toInt32) &&& (3 : Int32))
def f0_s0_274 (p5 : Int32) : Int32 := (if (f0_v261 p5) < (1 : Int32) then (0 : Int32) else (1 : Int32))
def f0_s0_287 (p5 : Int32) : Int32 := (if (f0_v261 p5) < (2 : Int32) then (0 : Int32) else (1 : Int32))
def f0_s0_300 (p5 : Int32) : Int32 := (if (f0_v261 p5) < (3 : Int32) then (0 : Int32) else (1 : Int32))
def f0_F_unsettled_b153_377 (p1 : Int32) (p2 : Int32) (p5 : Int32) : Int32 := (if (f0_s0_274 p5) = (0 : Int32) then (f5_o2 (0 : Int32) (3 : Int32) (f0_v42 p1) (3 : Int32) (f0_v86 p1) (3 : Int32) (f0_v142 p1)) else (f8_o8 (f2_o0 (f0_v151 p2) (0 : Int64) (f0_v163 p2) (f0_v175 p2) (0 : Int32) (0 : Int64) (0 : Int32) (0 : Int32)) (f2_o2 (f0_v151 p2) (0 : Int64) (f0_v163 p2) (f0_v175 p2) (0 : Int32) (0 : Int64) (0 : Int32) (0 : Int32)) (f2_o3 (f0_v151 p2) (0 : Int64) (f0_v163 p2) (f0_v175 p2) (0 : Int32) (0 : Int64) (0 : Int32) (0 : Int32)) (f5_o2 (0 : Int32) (3 : Int32) (f0_v42 p1) (3 : Int32) (f0_v86 p1) (3 : Int32) (f0_v142 p1)) (3 : Int32) (f0_v42 p1) (3 : Int32) (f0_v86 p1) (f5_x0n (0 : Int32) (3 : Int32) (f0_v42 p1) (3 : Int32) (f0_v86 p1) (3 : Int32) (f0_v142 p1)) (f5_x0c (0 : Int32) (3 : Int32) (f0_v42 p1) (3 : Int32) (f0_v86 p1) (3 : Int32) (f0_v142 p1)) (f5_x1n (0 : Int32) (3 : Int32) (f0_v42 p1) (3 : Int32) (f0_v86 p1) (3 : Int32) (f0_v142 p1)) (f5_x1c (0 : Int32) (3 : Int32) (f0_v42 p1) (3 : Int32) (f0_v86 p1) (3 : Int32) (f0_v142 p1)) (f5_x2n (0 : Int32) (3 : Int32) (f0_v42 p1) (3 : Int32) (f0_v86 p1) (3 : Int32) (f0_v142 p1)) (f5_x2c (0 : Int32) (3 : Int32) (f0_v42 p1) (3 : Int32) (f0_v86 p1) (3 : Int32) (f0_v142 p1)) (f5_x3n (0 : Int32) (3 : Int32) (f0_v42 p1) (3 : Int32) (f0_v86 p1) (3 : Int32) (f0_v142 p1)) (f5_x3c (0 : Int32) (3 : Int32) (f0_v42 p1) (3 : Int32) (f0_v86 p1) (3 : Int32) (f0_v142 p1)) (f5_x4n (0 : Int32) (3 : Int32) (f0_v42 p1) (3 : Int32) (f0_v86 p1) (3 : Int32) (f0_v142 p1)) (f5_x4c (0 : Int32) (3 : Int32) (f0_v42 p1) (3 : Int32) (f0_v86 p1) (3 : Int32) (f0_v142 p1)) (f5_x5n (0 : Int32) (3 : Int32) (f0_v42 p1) (3 : Int32) (f0_v86 p1) (3 : Int32) (f0_v142 p1)) (f5_x5c (0 : Int32) (3 : Int32) (f0_v42 p1) (3 : Int32) (f0_v86 p1) (3 : Int32) (f0_v142 p1))))
def f0_A_r183_0_377 (p1 : Int32) (p2 : Int32) (p5 : Int32) : Nat → Int32 := (if (f0_s0_274 p5) = (0 : Int32) then (f5_x0c (0 : Int32) (3 : Int32) (f0_v42 p1) (3 : Int32) (f0_v86 p1) (3 : Int32) (f0_v142 p1)) else (f8_o9 (f2_o0 (f0_v151 p2) (0 : Int64) (f0_v163 p2) (f0_v175 p2) (0 : Int32) (0 : Int64) (0 : Int32) (0 : Int32)) (f2_o2 (f0_v151 p2) (0 : Int64) (f0_v163 p2) (f0_v175 p2) (0 : Int32) (0 : Int64) (0 : Int32) (0 : Int32)) (f2_o3 (f0_v151 p2) (0 : Int64) (f0_v163 p2) (f0_v175 p2) (0 : Int32) (0 : Int64) (0 : Int32) (0 : Int32)) (f5_o2 (0 : Int32) (3 : Int32) (f0_v42 p1) (3 : Int32) (f0_v86 p1) (3 : Int32) (f0_v142 p1)) (3 : Int32) (f0_v42 p1) (3 : Int32) (f0_v86 p1) (f5_x0n (0 : Int32) (3 : Int32) (f0_v42 p1) (3 : Int32) (f0_v86 p1) (3 : Int32) (f0_v142 p1)) (f5_x0c (0 : Int32) (3 : Int32) (f0_v42 p1) (3 : Int32) (f0_v86 p1) (3 : Int32) (f0_v142 p1)) (f5_x1n (0 : Int32) (3 : Int32) (f0_v42 p1) (3 : Int32) (f0_v86 p1) (3 : Int32) (f0_v142 p1)) (f5_x1c (0 : Int32) (3 : Int32) (f0_v42 p1) (3 : Int32) (f0_v86 p1) (3 : Int32) (f0_v142 p1)) (f5_x2n (0 : Int32) (3 : Int32) (f0_v42 p1) (3 : Int32) (f0_v86 p1) (3 : Int32) (f0_v142 p1)) (f5_x2c (0 : Int32) (3 : Int32) (f0_v42 p1) (3 : Int32) (f0_v86 p1) (3 : Int32) (f0_v142 p1)) (f5_x3n (0 : Int32) (3 : Int32) (f0_v42 p1) (3 : Int32) (f0_v86 p1) (3 : Int32) (f0_v142 p1)) (f5_x3c (0 : Int32) (3 : Int32) (f0_v42 p1) (3 : Int32) (f0_v86 p1) (3 : Int32) (f0_v142 p1)) (f5_x4n (0 : Int32) (3 : Int32) (f0_v42 p1) (3 : Int32) (f0_v86 p1) (3 : Int32) (f0_v142 p1)) (f5_x4c (0 : Int32) (3 : Int32) (f0_v42 p1) (3 : Int32) (f0_v86 p1) (3 : Int32) (f0_v142 p1)) (f5_x5n (0 : Int32) (3 : Int32) (f0_v42 p1) (3 : Int32) (f0_v86 p1) (3 : Int32) (f0_v142 p1)) (f5_x5c (0 : Int32) (3 : Int32) (f0_v42 p1) (3 : Int32) (f0_v86 p1) (3 : Int32) (f0_v142 p1))))
def f0_A_r183_1_377 (p1 : Int32) (p2 : Int32) (p5 : Int32) : Nat → Int32 := (if (f0_s0_274 p5) = (0 : Int32) then (f5_x1c (0 : Int32) (3 : Int32) (f0_v42 p1) (3 : Int32) (f0_v86 p1) (3 : Int32) (f0_v142 p1)) else (f8_o10 (f2_o0 (f0_v151 p2) (0 : Int64) (f0_v163 p2) (f0_v175 p2) (0 : Int32) (0 : Int64) (0 : Int32) (0 : Int32)) (f2_o2 (f0_v151 p2) (0 : Int64) (f0_v163 p2) (f0_v175 p2) (0 : Int32) (0 : Int64) (0 : Int32) (0 : Int32)) (f2_o3 (f0_v151 p2) (0 : Int64) (f0_v163 p2) (f0_v175 p2) (0 : Int32) (0 : Int64) (0 : Int32) (0 : Int32)) (f5_o2 (0 : Int32) (3 : Int32) (f0_v42 p1) (3 : Int32) (f0_v86 p1) (3 : Int32) (f0_v142 p1)) (3 : Int32) (f0_v42 p1) (3 : Int32) (f0_v86 p1) (f5_x0n (0 : Int32) (3 : Int32) (f0_v42 p1) (3 : Int32) (f0_v86 p1) (3 : Int32) (f0_v142 p1)) (f5_x0c (0 : Int32) (3 : Int32) (f0_v42 p1) (3 : Int32) (f0_v86 p1) (3 : Int32) (f0_v142 p1)) (f5_x1n (0 : Int32) (3 : Int32) (f0_v42 p1) (3 : Int32) (f0_v86 p1) (3 : Int32) (f0_v142 p1)) (f5_x1c (0 : Int32) (3 : Int32) (f0_v42 p1) (3 : Int32) (f0_v86 p1) (3 : Int32) (f0_v142 p1)) (f5_x2n (0 : Int32) (3 : Int32) (f0_v42 p1) (3 : Int32) (f0_v86 p1) (3 : Int32) (f0_v142 p1)) (f5_x2c (0 : Int32) (3 : Int32) (f0_v42 p1) (3 : Int32) (f0_v86 p1) (3 : Int32) (f0_v142 p1)) (f5_x3n (0 : Int32) (3 : Int32) (f0_v42 p1) (3 : Int32) (f0_v86 p1) (3 : Int32) (f0_v142 p1)) (f5_x3c (0 : Int32) (3 : Int32) (f0_v42 p1) (3 : Int32) (f0_v86 p1) (3 : Int32) (f0_v142 p1)) (f5_x4n (0 : Int32) (3 : Int32) (f0_v42 p1) (3 : Int32) (f0_v86 p1) (3 : Int32) (f0_v142 p1)) (f5_x4c (0 : Int32) (3 : Int32) (f0_v42 p1) (3 : Int32) (f0_v86 p1) (3 : Int32) (f0_v142 p1)) (f5_x5n (0 : Int32) (3 : Int32) (f0_v42 p1) (3 : Int32) (f0_v86 p1) (3 : Int32) (f0_v142 p1)) (f5_x5c (0 : Int32) (3 : Int32) (f0_v42 p1) (3 : Int32) (f0_v86 p1) (3 : Int32) (f0_v142 p1))))
def f0_A_r183_2_377 (p1 : Int32) (p2 : Int32) (p5 : Int32) : Nat → Int32 := (if (f0_s0_274 p5) = (0 : Int32) then (f5_x2c (0 : Int32) (3 : Int32) (f0_v42 p1) (3 : Int32) (f0_v86 p1) (3 : Int32) (f0_v142 p1)) else (f8_o11 (f2_o0 (f0_v151 p2) (0 : Int64) (f0_v163 p2) (f0_v175 p2) (0 : Int32) (0 : Int64) (0 : Int32) (0 : Int32)) (f2_o2 (f0_v151 p2) (0 : Int64) (f0_v163 p2) (f0_v175 p2) (0 : Int32) (0 : Int64) (0 : Int32) (0 : Int32)) (f2_o3 (f0_v151 p2) (0 : Int64) (f0_v163 p2) (f0_v175 p2) (0 : Int32) (0 : Int64) (0 : Int32) (0 : Int32)) (f5_o2 (0 : Int32) (3 : Int32) (f0_v42 p1) (3 : Int32) (f0_v86 p1) (3 : Int32) (f0_v142 p1)) (3 : Int32) (f0_v42 p1) (3 : Int32) (f0_v86 p1) (f5_x0n (0 : Int32) (3 : Int32) (f0_v42 p1) (3 : Int32) (f0_v86 p1) (3 : Int32) (f0_v142 p1)) (f5_x0c (0 : Int32) (3 : Int32) (f0_v42 p1) (3 : Int32) (f0_v86 p1) (3 : Int32) (f0_v142 p1)) (f5_x1n (0 : Int32) (3 : Int32) (f0_v42 p1) (3 : Int32) (f0_v86 p1) (3 : Int32) (f0_v142 p1)) (f5_x1c (0 : Int32) (3 : Int32) (f0_v42 p1) (3 : Int32) (f0_v86 p1) (3 : Int32) (f0_v142 p1)) (f5_x2n (0 : Int32) (3 : Int32) (f0_v42 p1) (3 : Int32) (f0_v86 p1) (3 : Int32) (f0_v142 p1)) (f5_x2c (0 : Int32) (3 : Int32) (f0_v42 p1) (3 : Int32) (f0_v86 p1) (3 : Int32) (f0_v142 p1)) (f5_x3n (0 : Int32) (3 : Int32) (f0_v42 p1) (3 : Int32) (f0_v86 p1) (3 : Int32) (f0_v142 p1)) (f5_x3c (0 : Int32) (3 : Int32) (f0_v42 p1) (3 : Int32) (f0_v86 p1) (3 : Int32) (f0_v142 p1)) (f5_x4n (0 : Int32) (3 : Int32) (f0_v42 p1) (3 : Int32) (f0_v86 p1) (3 : Int32) (f0_v142 p1)) (f5_x4c (0 : Int32) (3 : Int32) (f0_v42 p1) (3 : Int32) (f0_v86 p1) (3 : Int32) (f0_v142 p1)) (f5_x5n (0 : Int32) (3 : Int32) (f0_v42 p1) (3 : Int32) (f0_v86 p1) (3 : Int32) (f0_v142 p1)) (f5_x5c (0 : Int32) (3 : Int32) (f0_v42 p1) (3 : Int32) (f0_v86 p1) (3 : Int32) (f0_v142 p1))))
def f0_A_r183_3_377 (p1 : Int32) (p2 : Int32) (p5 : Int32) : Nat → Int32 := (if (f0_s0_274 p5) = (0 : Int32) then (f5_x3c (0 : Int32) (3 : Int32) (f0_v42 p1) (3 : Int32) (f0_v86 p1) (3 : Int32) (f0_v142 p1)) else (f8_o12 (f2_o0 (f0_v151 p2) (0 : Int64) (f0_v163 p2) (f0_v175 p2) (0 : Int32) (0 : Int64) (0 : Int32) (0 : Int32)) (f2_o2 (f0_v151 p2) (0 : Int64) (f0_v163 p2) (f0_v175 p2) (0 : Int32) (0 : Int64) (0 : Int32) (0 : Int32)) (f2_o3 (f0_v151 p2) (0 : Int64) (f0_v163 p2) (f0_v175 p2) (0 : Int32) (0 : Int64) (0 : Int32) (0 : Int32)) (f5_o2 (0 : Int32) (3 : Int32) (f0_v42 p1) (3 : Int32) (f0_v86 p1) (3 : Int32) (f0_v142 p1)) (3 : Int32) (f0_v42 p1) (3 : Int32) (f0_v86 p1) (f5_x0n (0 : Int32) (3 : Int32) (f0_v42 p1) (3 : Int32) (f0_v86 p1) (3 : Int32) (f0_v142 p1)) (f5_x0c (0 : Int32) (3 : Int32) (f0_v42 p1) (3 : Int32) (f0_v86 p1) (3 : Int32) (f0_v142 p1)) (f5_x1n (0 : Int32) (3 : Int32) (f0_v42 p1) (3 : Int32) (f0_v86 p1) (3 : Int32) (f0_v142 p1)) (f5_x1c (0 : Int32) (3 : Int32) (f0_v42 p1) (3 : Int32) (f0_v86 p1) (3 : Int32) (f0_v142 p1)) (f5_x2n (0 : Int32) (3 : Int32) (f0_v42 p1) (3 : Int32) (f0_v86 p1) (3 : Int32) (f0_v142 p1)) (f5_x2c (0 : Int32) (3 : Int32) (f0_v42 p1) (3 : Int32) (f0_v86 p1) (3 : Int32) (f0_v142 p1)) (f5_x3n (0 : Int32) (3 : Int32) (f0_v42 p1) (3 : Int32) (f0_v86 p1) (3 : Int32) (f0_v142 p1)) (f5_x3c (0 : Int32) (3 : Int32) (f0_v42 p1) (3 : Int32) (f0_v86 p1) (3 : Int32) (f0_v142 p1)) (f5_x4n (0 : Int32) (3 : Int32) (f0_v42 p1) (3 : Int32) (f0_v86 p1) (3 : Int32) (f0_v142 p1)) (f5_x4c (0 : Int32) (3 : Int32) (f0_v42 p1) (3 : Int32) (f0_v86 p1) (3 : Int32) (f0_v142 p1)) (f5_x5n (0 : Int32) (3 : Int32) (f0_v42 p1) (3 : Int32) (f0_v86 p1) (3 : Int32) (f0_v142 p1)) (f5_x5c (0 : Int32) (3 : Int32) (f0_v42 p1) (3 : Int32) (f0_v86 p1) (3 : Int32) (f0_v142 p1))))
def f0_A_r183_4_377 (p1 : Int32) (p2 : Int32) (p5 : Int32) : Nat → Int32 := (if (f0_s0_274 p5) = (0 : Int32) then (f5_x4c (0 : Int32) (3 : Int32) (f0_v42 p1) (3 : Int32) (f0_v86 p1) (3 : Int32) (f0_v142 p1)) else (f8_o13 (f2_o0 (f0_v151 p2) (0 : Int64) (f0_v163 p2) (f0_v175 p2) (0 : Int32) (0 : Int64) (0 : Int32) (0 : Int32)) (f2_o2 (f0_v151 p2) (0 : Int64) (f0_v163 p2) (f0_v175 p2) (0 : Int32) (0 : Int64) (0 : Int32) (0 : Int32)) (f2_o3 (f0_v151 p2) (0 : Int64) (f0_v163 p2) (f0_v175 p2) (0 : Int32) (0 : Int64) (0 : Int32) (0 : Int32)) (f5_o2 (0 : Int32) (3 : Int32) (f0_v42 p1) (3 : Int32) (f0_v86 p1) (3 : Int32) (f0_v142 p1)) (3 : Int32) (f0_v42 p1) (3 : Int32) (f0_v86 p1) (f5_x0n (0 : Int32) (3 : Int32) (f0_v42 p1) (3 : Int32) (f0_v86 p1) (3 : Int32) (f0_v142 p1)) (f5_x0c (0 : Int32) (3 : Int32) (f0_v42 p1) (3 : Int32) (f0_v86 p1) (3 : Int32) (f0_v142 p1)) (f5_x1n (0 : Int32) (3 : Int32) (f0_v42 p1) (3 : Int32) (f0_v86 p1) (3 : Int32) (f0_v142 p1)) (f5_x1c (0 : Int32) (3 : Int32) (f0_v42 p1) (3 : Int32) (f0_v86 p1) (3 : Int32) (f0_v142 p1)) (f5_x2n (0 : Int32) (3 : Int32) (f0_v42 p1) (3 : Int32) (f0_v86 p1) (3 : Int32) (f0_v142 p1)) (f5_x2c (0 : Int32) (3 : Int32) (f0_v42 p1) (3 : Int32) (f0_v86 p1) (3 : Int32) (f0_v142 p1)) (f5_x3n (0 : Int32) (3 : Int32) (f0_v42 p1) (3 : Int32) (f0_v86 p1) (3 : Int32) (f0_v142 p1)) (f5_x3c (0 : Int32) (3 : Int32) (f0_v42 p1) (3 : Int32) (f0_v86 p1) (3 : Int32) (f0_v142 p1)) (f5_x4n (0 : Int32) (3 : Int32) (f0_v42 p1) (3 : Int32) (f0_v86 p1) (3 : Int32) (f0_v142 p1)) (f5_x4c (0 : Int32) (3 : Int32) (f0_v42 p1) (3 : Int32) (f0_v86 p1) (3 : Int32) (f0_v142 p1)) (f5_x5n (0 : Int32) (3 : Int32) (f0_v42 p1) (3 : Int32) (f0_v86 p1) (3 : Int32) (f0_v142 p1)) (f5_x5c (0 : Int32) (3 : Int32) (f0_v42 p1) (3 : Int32) (f0_v86 p1) (3 : Int32) (f0_v142 p1))))
def f0_A_r183_5_377 (p1 : Int32) (p2 : Int32) (p5 : Int32) : Nat → Int32 := (if (f0_s0_274 p5) = (0 : Int32) then (f5_x5c (0 : Int32) (3 : Int32) (f0_v42 p1) (3 : Int32) (f0_v86 p1) (3 : Int32) (f0_v142 p1)) else (f8_o14 (f2_o0 (f0_v151 p2) (0 : Int64) (f0_v163 p2) (f0_v175 p2) (0 : Int32) (0 : Int64) (0 : Int32) (0 : Int32)) (f2_o2 (f0_v151 p2) (0 : Int64) (f0_v163 p2) (f0_v175 p2) (0 : Int32) (0 : Int64) (0 : Int32) (0 : Int32)) (f2_o3 (f0_v151 p2) (0 : Int64) (f0_v163 p2) (f0_v175 p2) (0 : Int32) (0 : Int64) (0 : Int32) (0 : Int32)) (f5_o2 (0 : Int32) (3 : Int32) (f0_v42 p1) (3 : Int32) (f0_v86 p1) (3 : Int32) (f0_v142 p1)) (3 : Int32) (f0_v42 p1) (3 : Int32) (f0_v86 p1) (f5_x0n (0 : Int32) (3 : Int32) (f0_v42 p1) (3 : Int32) (f0_v86 p1) (3 : Int32) (f0_v142 p1)) (f5_x0c (0 : Int32) (3 : Int32) (f0_v42 p1) (3 : Int32) (f0_v86 p1) (3 : Int32) (f0_v142 p1)) (f5_x1n (0 : Int32) (3 : Int32) (f0_v42 p1) (3 : Int32) (f0_v86 p1) (3 : Int32) (f0_v142 p1)) (f5_x1c (0 : Int32) (3 : Int32) (f0_v42 p1) (3 : Int32) (f0_v86 p1) (3 : Int32) (f0_v142 p1)) (f5_x2n (0 : Int32) (3 : Int32) (f0_v42 p1) (3 : Int32) (f0_v86 p1) (3 : Int32) (f0_v142 p1)) (f5_x2c (0 : Int32) (3 : Int32) (f0_v42 p1) (3 : Int32) (f0_v86 p1) (3 : Int32) (f0_v142 p1)) (f5_x3n (0 : Int32) (3 : Int32) (f0_v42 p1) (3 : Int32) (f0_v86 p1) (3 : Int32) (f0_v142 p1)) (f5_x3c (0 : Int32) (3 : Int32) (f0_v42 p1) (3 : Int32) (f0_v86 p1) (3 : Int32) (f0_v142 p1)) (f5_x4n (0 : Int32) (3 : Int32) (f0_v42 p1) (3 : Int32) (f0_v86 p1) (3 : Int32) (f0_v142 p1)) (f5_x4c (0 : Int32) (3 : Int32) (f0_v42 p1) (3 : Int32) (f0_v86 p1) (3 : Int32) (f0_v142 p1)) (f5_x5n (0 : Int32) (3 : Int32) (f0_v42 p1) (3 : Int32) (f0_v86 p1) (3 : Int32) (f0_v142 p1)) (f5_x5c (0 : Int32) (3 : Int32) (f0_v42 p1) (3 : Int32) (f0_v86 p1) (3 : Int32) (f0_v142 p1))))
def f0_F_unsettled_b153_389 (p1 : Int32) (p2 : Int32) (p3 : Int32) (p5 : Int32) : Int32 := (if (f0_s0_287 p5) = (0 : Int32) then (f0_F_unsettled_b153_377 p1 p2 p5) else (f8_o8 (f2_o0 (f0_v184 p3) (0 : Int64) (f0_v196 p3) (f0_v208 p3) (0 : Int32) (0 : Int64) (0 : Int32) (0 : Int32)) (f2_o2 (f0_v184 p3) (0 : Int64) (f0_v196 p3) (f0_v208 p3) (0 : Int32) (0 : Int64) (0 : Int32) (0 : Int32)) (f2_o3 (f0_v184 p3) (0 : Int64) (f0_v196 p3) (f0_v208 p3) (0 : Int32) (0 : Int64) (0 : Int32) (0 : Int32)) (f0_F_unsettled_b153_377 p1 p2 p5) (3 : Int32) (f0_v42 p1) (3 : Int32) (f0_v86 p1) (f5_x0n (0 : Int32) (3 : Int32) (f0_v42 p1) (3 : Int32) (f0_v86 p1) (3 : Int32) (f0_v142 p1)) (f0_A_r183_0_377 p1 p2 p5) (f5_x1n (0 : Int32) (3 : Int32) (f0_v42 p1) (3 : Int32) (f0_v86 p1) (3 : Int32) (f0_v142 p1)) (f0_A_r183_1_377 p1 p2 p5) (f5_x2n (0 : Int32) (3 : Int32) (f0_v42 p1) (3 : Int32) (f0_v86 p1) (3 : Int32) (f0_v142 p1)) (f0_A_r183_2_377 p1 p2 p5) (f5_x3n (0 : Int32) (3 : Int32) (f0_v42 p1) (3 : Int32) (f0_v86 p1) (3 : Int32) (f0_v142 p1)) (f0_A_r183_3_377 p1 p2 p5) (f5_x4n (0 : Int32) (3 : Int32) (f0_v42 p1) (3 : Int32) (f0_v86 p1) (3 : Int32) (f0_v142 p1)) (f0_A_r183_4_377 p1 p2 p5) (f5_x5n (0 : Int32) (3 : Int32) (f0_v42 p1) (3 : Int32) (f0_v86 p1) (3 : Int32) (f0_v142 p1)) (f0_A_r183_5_377 p1 p2 p5)))
def f0_A_r183_0_389 (p1 : Int32) (p2 : Int32) (p3 : Int32) (p5 : Int32) : Nat → Int32 := (if (f0_s0_287 p5) = (0 : Int32) then (f0_A_r183_0_377 p1 p2 p5) else (f8_o9 (f2_o0 (f0_v184 p3) (0 : Int64) (f0_v196 p3) (f0_v208 p3) (0 : Int32) (0 : Int64) (0 : Int32) (0 : Int32)) (f2_o2 (f0_v184 p3) (0 : Int64) (f0_v196 p3) (f0_v208 p3) (0 : Int32) (0 : Int64) (0 : Int32) (0 : Int32)) (f2_o3 (f0_v184 p3) (0 : Int64) (f0_v196 p3) (f0_v208 p3) (0 : Int32) (0 : Int64) (0 : Int32) (0 : Int32)) (f0_F_unsettled_b153_377 p1 p2 p5) (3 : Int32) (f0_v42 p1) (3 : Int32) (f0_v86 p1) (f5_x0n (0 : Int32) (3 : Int32) (f0_v42 p1) (3 : Int32) (f0_v86 p1) (3 : Int32) (f0_v142 p1)) (f0_A_r183_0_377 p1 p2 p5) (f5_x1n (0 : Int32) (3 : Int32) (f0_v42 p1) (3 : Int32) (f0_v86 p1) (3 : Int32) (f0_v142 p1)) (f0_A_r183_1_377 p1 p2 p5) (f5_x2n (0 : Int32) (3 : Int32) (f0_v42 p1) (3 : Int32) (f0_v86 p1) (3 : Int32) (f0_v142 p1)) (f0_A_r183_2_377 p1 p2 p5) (f5_x3n (0 : Int32) (3 : Int32) (f0_v42 p1) (3 : Int32) (f0_v86 p1) (3 : Int32) (f0_v142 p1)) (f0_A_r183_3_377 p1 p2 p5) (f5_x4n (0 : Int32) (3 : Int32) (f0_v42 p1) (3 : Int32) (f0_v86 p1) (3 : Int32) (f0_v142 p1)) (f0_A_r183_4_377 p1 p2 p5) (f5_x5n (0 : Int32) (3 : Int32) (f0_v42 p1) (3 : Int32) (f0_v86 p1) (3 : Int32) (f0_v142 p1)) (f0_A_r183_5_377 p1 p2 p5)))
def f0_A_r183_1_389 (p1 : Int32) (p2 : Int32) (p3 : Int32) (p5 : Int32) : Nat → Int32 := (if (f0_s0_287 p5) = (0 : Int32) then (f0_A_r183_1_377 p1 p2 p5) else (f8_o10 (f2_o0 (f0_v184 p3) (0 : Int64) (f0_v196 p3) (f0_v208 p3) (0 : Int32) (0 : Int64) (0 : Int32) (0 : Int32)) (f2_o2 (f0_v184 p3) (0 : Int64) (f0_v196 p3) (f0_v208 p3) (0 : Int32) (0 : Int64) (0 : Int32) (0 : Int32)) (f2_o3 (f0_v184 p3) (0 : Int64) (f0_v196 p3) (f0_v208 p3) (0 : Int32) (0 : Int64) (0 : Int32) (0 : Int32)) (f0_F_unsettled_b153_377 p1 p2 p5) (3 : Int32) (f0_v42 p1) (3 : Int32) (f0_v86 p1) (f5_x0n (0 : Int32) (3 : Int32) (f0_v42 p1) (3 : Int32) (f0_v86 p1) (3 : Int32) (f0_v142 p1)) (f0_A_r183_0_377 p1 p2 p5) (f5_x1n (0 : Int32) (3 : Int32) (f0_v42 p1) (3 : Int32) (f0_v86 p1) (3 : Int32) (f0_v142 p1)) (f0_A_r183_1_377 p1 p2 p5) (f5_x2n (0 : Int32) (3 : Int32) (f0_v42 p1) (3 : Int32) (f0_v86 p1) (3 : Int32) (f0_v142 p1)) (f0_A_r183_2_377 p1 p2 p5) (f5_x3n (0 : Int32) (3 : Int32) (f0_v42 p1) (3 : Int32) (f0_v86 p1) (3 : Int32) (f0_v142 p1)) (f0_A_r183_3_377 p1 p2 p5) (f5_x4n (0 : Int32) (3 : Int32) (f0_v42 p1) (3 : Int32) (f0_v86 p1) (3 : Int32) (f0_v142 p1)) (f0_A_r183_4_377 p1 p2 p5) (f5_x5n (0 : Int32) (3 : Int32) (f0_v42 p1) (3 : Int32) (f0_v86 p1) (3 : Int32) (f0_v142 p1)) (f0_A_r183_5_377 p1 p2 p5)))
def f0_A_r183_2_389 (p1 : Int32) (p2 : Int32) (p3 : Int32) (p5 : Int32) : Nat → Int32 := (if (f0_s0_287 p5) = (0 : Int32) then (f0_A_r183_2_377 p1 p2 p5) else (f8_o11 (f2_o0 (f0_v184 p3) (0 : Int64) (f0_v196 p3) (f0_v208 p3) (0 : Int32) (0 : Int64) (0 : Int32) (0 : Int32)) (f2_o2 (f0_v184 p3) (0 : Int64) (f0_v196 p3) (f0_v208 p3) (0 : Int32) (0 : Int64) (0 : Int32) (0 : Int32)) (f2_o3 (f0_v184 p3) (0 : Int64) (f0_v196 p3) (f0_v208 p3) (0 : Int32) (0 : Int64) (0 : Int32) (0 : Int32)) (f0_F_unsettled_b153_377 p1 p2 p5) (3 : Int32) (f0_v42 p1) (3 : Int32) (f0_v86 p1) (f5_x0n (0 : Int32) (3 : Int32) (f0_v42 p1) (3 : Int32) (f0_v86 p1) (3 : Int32) (f0_v142 p1)) (f0_A_r183_0_377 p1 p2 p5) (f5_x1n (0 : Int32) (3 : Int32) (f0_v42 p1) (3 : Int32) (f0_v86 p1) (3 : Int32) (f0_v142 p1)) (f0_A_r183_1_377 p1 p2 p5) (f5_x2n (0 : Int32) (3 : Int32) (f0_v42 p1) (3 : Int32) (f0_v86 p1) (3 : Int32) (f0_v142 p1)) (f0_A_r183_2_377 p1 p2 p5) (f5_x3n (0 : Int32) (3 : Int32) (f0_v42 p1) (3 : Int32) (f0_v86 p1) (3 : Int32) (f0_v142 p1)) (f0_A_r183_3_377 p1 p2 p5) (f5_x4n (0 : Int32) (3 : Int32) (f0_v42 p1) (3 : Int32) (f0_v86 p1) (3 : Int32) (f0_v142 p1)) (f0_A_r183_4_377 p1 p2 p5) (f5_x5n (0 : Int32) (3 : Int32) (f0_v42 p1) (3 : Int32) (f0_v86 p1) (3 : Int32) (f0_v142 p1)) (f0_A_r183_5_377 p1 p2 p5)))
def f0_A_r183_3_389 (p1 : Int32) (p2 : Int32) (p3 : Int32) (p5 : Int32) : Nat → Int32 := (if (f0_s0_287 p5) = (0 : Int32) then (f0_A_r183_3_377 p1 p2 p5) else (f8_o12 (f2_o0 (f0_v184 p3) (0 : Int64) (f0_v196 p3) (f0_v208 p3) (0 : Int32) (0 : Int64) (0 : Int32) (0 : Int32)) (f2_o2 (f0_v184 p3) (0 : Int64) (f0_v196 p3) (f0_v208 p3) (0 : Int32) (0 : Int64) (0 : Int32) (0 : Int32)) (f2_o3 (f0_v184 p3) (0 : Int64) (f0_v196 p3) (f0_v208 p3) (0 : Int32) (0 : Int64) (0 : Int32) (0 : Int32)) (f0_F_unsettled_b153_377 p1 p2 p5) (3 : Int32) (f0_v42 p1) (3 : Int32) (f0_v86 p1) (f5_x0n (0 : Int32) (3 : Int32) (f0_v42 p1) (3 : Int32) (f0_v86 p1) (3 : Int32) (f0_v142 p1)) (f0_A_r183_0_377 p1 p2 p5) (f5_x1n (0 : Int32) (3 : Int32) (f0_v42 p1) (3 : Int32) (f0_v86 p1) (3 : Int32) (f0_v142 p1)) (f0_A_r183_1_377 p1 p2 p5) (f5_x2n (0 : Int32) (3 : Int32) (f0_v42 p1) (3 : Int32) (f0_v86 p1) (3 : Int32) (f0_v142 p1)) (f0_A_r183_2_377 p1 p2 p5) (f5_x3n (0 : Int32) (3 : Int32) (f0_v42 p1) (3 : Int32) (f0_v86 p1) (3 : Int32) (f0_v142 p1)) (f0_A_r183_3_377 p1 p2 p5) (f5_x4n (0 : Int32) (3 : Int32) (f0_v42 p1) (3 : Int32) (f0_v86 p1) (3 : Int32) (f0_v142 p1)) (f0_A_r183_4_377 p1 p2 p5) (f5_x5n (0 : Int32) (3 : Int32) (f0_v42 p1) (3 : Int32) (f0_v86 p1) (3 : Int32) (f0_v142 p1)) (f0_A_r183_5_377 p1 p2 p5)))
def f0_A_r183_4_389 (p1 : Int32) (p2 : Int32) (p3 : Int32) (p5 : Int32) : Nat → Int32 := (if (f0_s0_287 p5) = (0 : Int32) then (f0_A_r183_4_377 p1 p2 p5) else (f8_o13 (f2_o0 (f0_v184 p3) (0 : Int64) (f0_v196 p3) (f0_v208 p3) (0 : Int32) (0 : Int64) (0 : Int32) (0 : Int32)) (f2_o2 (f0_v184 p3) (0 : Int64) (f0_v196 p3) (f0_v208 p3) (0 : Int32) (0 : Int64) (0 : Int32) (0 : Int32)) (f2_o3 (f0_v184 p3) (0 : Int64) (f0_v196 p3) (f0_v208 p3) (0 : Int32) (0 : Int64) (0 : Int32) (0 : Int32)) (f0_F_unsettled_b153_377 p1 p2 p5) (3 : Int32) (f0_v42 p1) (3 : Int32) (f0_v86 p1) (f5_x0n (0 : Int32) (3 : Int32) (f0_v42 p1) (3 : Int32) (f0_v86 p1) (3 : Int32) (f0_v142 p1)) (f0_A_r183_0_377 p1 p2 p5) (f5_x1n (0 : Int32) (3 : Int32) (f0_v42 p1) (3 : Int32) (f0_v86 p1) (3 : Int32) (f0_v142 p1)) (f0_A_r183_1_377 p1 p2 p5) (f5_x2n (0 : Int32) (3 : Int32) (f0_v42 p1) (3 : Int32) (f0_v86 p1) (3 : Int32) (f0_v142 p1)) (f0_A_r183_2_377 p1 p2 p5) (f5_x3n (0 : Int32) (3 : Int32) (f0_v42 p1) (3 : Int32) (f0_v86 p1) (3 : Int32) (f0_v142 p1)) (f0_A_r183_3_377 p1 p2 p5) (f5_x4n (0 : Int32) (3 : Int32) (f0_v42 p1) (3 : Int32) (f0_v86 p1) (3 : Int32) (f0_v142 p1)) (f0_A_r183_4_377 p1 p2 p5) (f5_x5n (0 : Int32) (3 : Int32) (f0_v42 p1) (3 : Int32) (f0_v86 p1) (3 : Int32) (f0_v142 p1)) (f0_A_r183_5_377 p1 p2 p5)))
def f0_A_r183_5_389 (p1 : Int32) (p2 : Int32) (p3 : Int32) (p5 : Int32) : Nat → Int32 := (if (f0_s0_287 p5) = (0 : Int32) then (f0_A_r183_5_377 p1 p2 p5) else (f8_o14 (f2_o0 (f0_v184 p3) (0 : Int64) (f0_v196 p3) (f0_v208 p3) (0 : Int32) (0 : Int64) (0 : Int32) (0 : Int32)) (f2_o2 (f0_v184 p3) (0 : Int64) (f0_v196 p3) (f0_v208 p3) (0 : Int32) (0 : Int64) (0 : Int32) (0 : Int32)) (f2_o3 (f0_v184 p3) (0 : Int64) (f0_v196 p3) (f0_v208 p3) (0 : Int32) (0 : Int64) (0 : Int32) (0 : Int32)) (f0_F_unsettled_b153_377 p1 p2 p5) (3 : Int32) (f0_v42 p1) (3 : Int32) (f0_v86 p1) (f5_x0n (0 : Int32) (3 : Int32) (f0_v42 p1) (3 : Int32) (f0_v86 p1) (3 : Int32) (f0_v142 p1)) (f0_A_r183_0_377 p1 p2 p5) (f5_x1n (0 : Int32) (3 : Int32) (f0_v42 p1) (3 : Int32) (f0_v86 p1) (3 : Int32) (f0_v142 p1)) (f0_A_r183_1_377 p1 p2 p5) (f5_x2n (0 : Int32) (3 : Int32) (f0_v42 p1) (3 : Int32) (f0_v86 p1) (3 : Int32) (f0_v142 p1)) (f0_A_r183_2_377 p1 p2 p5) (f5_x3n (0 : Int32) (3 : Int32) (f0_v42 p1) (3 : Int32) (f0_v86 p1) (3 : Int32) (f0_v142 p1)) (f0_A_r183_3_377 p1 p2 p5) (f5_x4n (0 : Int32) (3 : Int32) (f0_v42 p1) (3 : Int32) (f0_v86 p1) (3 : Int32) (f0_v142 p1)) (f0_A_r183_4_377 p1 p2 p5) (f5_x5n (0 : Int32) (3 : Int32) (f0_v42 p1) (3 : Int32) (f0_v86 p1) (3 : Int32) (f0_v142 p1)) (f0_A_r183_5_377 p1 p2 p5)))
def f0_F_unsettled_b153_401 (p1 : Int32) (p2 : Int32) (p3 : Int32) (p4 : Int32) (p5 : Int32) : Int32 := (if (f0_s0_300 p5) = (0 : Int32) then (f0_F_unsettled_b153_389 p1 p2 p3 p5) else (f8_o8 (f2_o0 (f0_v217 p4) (0 : Int64) (f0_v229 p4) (f0_v241 p4) (0 : Int32) (0 : Int64) (0 : Int32) (0 : Int32)) (f2_o2 (f0_v217 p4) (0 : Int64) (f0_v229 p4) (f0_v241 p4) (0 : Int32) (0 : Int64) (0 : Int32) (0 : Int32)) (f2_o3 (f0_v217 p4) (0 : Int64) (f0_v229 p4) (f0_v241 p4) (0 : Int32) (0 : Int64) (0 : Int32) (0 : Int32)) (f0_F_unsettled_b153_389 p1 p2 p3 p5) (3 : Int32) (f0_v42 p1) (3 : Int32) (f0_v86 p1) (f5_x0n (0 : Int32) (3 : Int32) (f0_v42 p1) (3 : Int32) (f0_v86 p1) (3 : Int32) (f0_v142 p1)) (f0_A_r183_0_389 p1 p2 p3 p5) (f5_x1n (0 : Int32) (3 : Int32) (f0_v42 p1) (3 : Int32) (f0_v86 p1) (3 : Int32) (f0_v142 p1)) (f0_A_r183_1_389 p1 p2 p3 p5) (f5_x2n (0 : Int32) (3 : Int32) (f0_v42 p1) (3 : Int32) (f0_v86 p1) (3 : Int32) (f0_v142 p1)) (f0_A_r183_2_389 p1 p2 p3 p5) (f5_x3n (0 : Int32) (3 : Int32) (f0_v42 p1) (3 : Int32) (f0_v86 p1) (3 : Int32) (f0_v142 p1)) (f0_A_r183_3_389 p1 p2 p3 p5) (f5_x4n (0 : Int32) (3 : Int32) (f0_v42 p1) (3 : Int32) (f0_v86 p1) (3 : Int32) (f0_v142 p1)) (f0_A_r183_4_389 p1 p2 p3 p5) (f5_x5n (0 : Int32) (3 : Int32) (f0_v42 p1) (3 : Int32) (f0_v86 p1) (3 : Int32) (f0_v142 p1)) (f0_A_r183_5_389 p1 p2 p3 p5)))
def f0_A_r183_0_401 (p1 : Int32) (p2 : Int32) (p3 : Int32) (p4 : Int32) (p5 : Int32) : Nat → Int32 := (if (f0_s0_300 p5) = (0 : Int32) then (f0_A_r183_0_389 p1 p2 p3 p5) else (f8_o9 (f2_o0 (f0_v217 p4) (0 : Int64) (f0_v229 p4) (f0_v241 p4) (0 : Int32) (0 : Int64) (0 : Int32) (0 : Int32)) (f2_o2 (f0_v217 p4) (0 : Int64) (f0_v229 p4) (f0_v241 p4) (0 : Int32) (0 : Int64) (0 : Int32) (0 : Int32)) (f2_o3 (f0_v217 p4) (0 : Int64) (f0_v229 p4) (f0_v241 p4) (0 : Int32) (0 : Int64) (0 : Int32) (0 : Int32)) (f0_F_unsettled_b153_389 p1 p2 p3 p5) (3 : Int32) (f0_v42 p1) (3 : Int32) (f0_v86 p1) (f5_x0n (0 : Int32) (3 : Int32) (f0_v42 p1) (3 : Int32) (f0_v86 p1) (3 : Int32) (f0_v142 p1)) (f0_A_r183_0_389 p1 p2 p3 p5) (f5_x1n (0 : Int32) (3 : Int32) (f0_v42 p1) (3 : Int32) (f0_v86 p1) (3 : Int32) (f0_v142 p1)) (f0_A_r183_1_389 p1 p2 p3 p5) (f5_x2n (0 : Int32) (3 : Int32) (f0_v42 p1) (3 : Int32) (f0_v86 p1) (3 : Int32) (f0_v142 p1)) (f0_A_r183_2_389 p1 p2 p3 p5) (f5_x3n (0 : Int32) (3 : Int32) (f0_v42 p1) (3 : Int32) (f0_v86 p1) (3 : Int32) (f0_v142 p1)) (f0_A_r183_3_389 p1 p2 p3 p5) (f5_x4n (0 : Int32) (3 : Int32) (f0_v42 p1) (3 : Int32) (f0_v86 p1) (3 : Int32) (f0_v142 p1)) (f0_A_r183_4_389 p1 p2 p3 p5) (f5_x5n (0 : Int32) (3 : Int32) (f0_v42 p1) (3 : Int32) (f0_v86 p1) (3 : Int32) (f0_v142 p1)) (f0_A_r183_5_389 p1 p2 p3 p5)))
def f0_A_r183_1_401 (p1 : Int32) (p2 : Int32) (p3 : Int32) (p4 : Int32) (p5 : Int32) : Nat → Int32 := (if (f0_s0_300 p5) = (0 : Int32) then (f0_A_r183_1_389 p1 p2 p3 p5) else (f8_o10 (f2_o0 (f0_v217 p4) (0 : Int64) (f0_v229 p4) (f0_v241 p4) (0 : Int32) (0 : Int64) (0 : Int32) (0 : Int32)) (f2_o2 (f0_v217 p4) (0 : Int64) (f0_v229 p4) (f0_v241 p4) (0 : Int32) (0 : Int64) (0 : Int32) (0 : Int32)) (f2_o3 (f0_v217 p4) (0 : Int64) (f0_v229 p4) (f0_v241 p4) (0 : Int32) (0 : Int64) (0 : Int32) (0 : Int32)) (f0_F_unsettled_b153_389 p1 p2 p3 p5) (3 : Int32) (f0_v42 p1) (3 : Int32) (f0_v86 p1) (f5_x0n (0 : Int32) (3 : Int32) (f0_v42 p1) (3 : Int32) (f0_v86 p1) (3 : Int32) (f0_v142 p1)) (f0_A_r183_0_389 p1 p2 p3 p5) (f5_x1n (0 : Int32) (3 : Int32) (f0_v42 p1) (3 : Int32) (f0_v86 p1) (3 : Int32) (f0_v142 p1)) (f0_A_r183_1_389 p1 p2 p3 p5) (f5_x2n (0 : Int32) (3 : Int32) (f0_v42 p1) (3 : Int32) (f0_v86 p1) (3 : Int32) (f0_v142 p1)) (f0_A_r183_2_389 p1 p2 p3 p5) (f5_x3n (0 : Int32) (3 : Int32) (f0_v42 p1) (3 : Int32) (f0_v86 p1) (3 : Int32) (f0_v142 p1)) (f0_A_r183_3_389 p1 p2 p3 p5) (f5_x4n (0 : Int32) (3 : Int32) (f0_v42 p1) (3 : Int32) (f0_v86 p1) (3 : Int32) (f0_v142 p1)) (f0_A_r183_4_389 p1 p2 p3 p5) (f5_x5n (0 : Int32) (3 : Int32) (f0_v42 p1) (3 : Int32) (f0_v86 p1) (3 : Int32) (f0_v142 p1)) (f0_A_r183_5_389 p1 p2 p3 p5)))
def f0_A_r183_2_401 (p1 : Int32) (p2 : Int32) (p3 : Int32) (p4 : Int32) (p5 : Int32) : Nat → Int32 := (if (f0_s0_300 p5) = (0 : Int32) then (f0_A_r183_2_389 p1 p2 p3 p5) else (f8_o11 (f2_o0 (f0_v217 p4) (0 : Int64) (f0_v229 p4) (f0_v241 p4) (0 : Int32) (0 : Int64) (0 : Int32) (0 : Int32)) (f2_o2 (f0_v217 p4) (0 : Int64) (f0_v229 p4) (f0_v241 p4) (0 : Int32) (0 : Int64) (0 : Int32) (0 : Int32)) (f2_o3 (f0_v217 p4) (0 : Int64) (f0_v229 p4) (f0_v241 p4) (0 : Int32) (0 : Int64) (0 : Int32) (0 : Int32)) (f0_F_unsettled_b153_389 p1 p2 p3 p5) (3 : Int32) (f0_v42 p1) (3 : Int32) (f0_v86 p1) (f5_x0n (0 : Int32) (3 : Int32) (f0_v42 p1) (3 : Int32) (f0_v86 p1) (3 : Int32) (f0_v142 p1)) (f0_A_r183_0_389 p1 p2 p3 p5) (f5_x1n (0 : Int32) (3 : Int32) (f0_v42 p1) (3 : Int32) (f0_v86 p1) (3 : Int32) (f0_v142 p1)) (f0_A_r183_1_389 p1 p2 p3 p5) (f5_x2n (0 : Int32) (3 : Int32) (f0_v42 p1) (3 : Int32) (f0_v86 p1) (3 : Int32) (f0_v142 p1)) (f0_A_r183_2_389 p1 p2 p3 p5) (f5_x3n (0 : Int32) (3 : Int32) (f0_v42 p1) (3 : Int32) (f0_v86 p1) (3 : Int32) (f0_v142 p1)) (f0_A_r183_3_389 p1 p2 p3 p5) (f5_x4n (0 : Int32) (3 : Int32) (f0_v42 p1) (3 : Int32) (f0_v86 p1) (3 : Int32) (f0_v142 p1)) (f0_A_r183_4_389 p1 p2 p3 p5) (f5_x5n (0 : Int32) (3 : Int32) (f0_v42 p1) (3 : Int32) (f0_v86 p1) (3 : Int32) (f0_v142 p1)) (f0_A_r183_5_389 p1 p2 p3 p5)))
def f0_A_r183_3_401 (p1 : Int32) (p2 : Int32) (p3 : Int32) (p4 : Int32) (p5 : Int32) : Nat → Int32 := (if (f0_s0_300 p5) = (0 : Int32) then (f0_A_r183_3_389 p1 p2 p3 p5) else (f8_o12 (f2_o0 (f0_v217 p4) (0 : Int64) (f0_v229 p4) (f0_v241 p4) (0 : Int32) (0 : Int64) (0 : Int32) (0 : Int32)) (f2_o2 (f0_v217 p4) (0 : Int64) (f0_v229 p4) (f0_v241 p4) (0 : Int32) (0 : Int64) (0 : Int32) (0 : Int32)) (f2_o3 (f0_v217 p4) (0 : Int64) (f0_v229 p4) (f0_v241 p4) (0 : Int32) (0 : Int64) (0 : Int32) (0 : Int32)) (f0_F_unsettled_b153_389 p1 p2 p3 p5) (3 : Int32) (f0_v42 p1) (3 : Int32) (f0_v86 p1) (f5_x0n (0 : Int32) (3 : Int32) (f0_v42 p1) (3 : Int32) (f0_v86 p1) (3 : Int32) (f0_v142 p1)) (f0_A_r183_0_389 p1 p2 p3 p5) (f5_x1n (0 : Int32) (3 : Int32) (f0_v42 p1) (3 : Int32) (f0_v86 p1) (3 : Int32) (f0_v142 p1)) (f0_A_r183_1_389 p1 p2 p3 p5) (f5_x2n (0 : Int32) (3 : Int32) (f0_v42 p1) (3 : Int32) (f0_v86 p1) (3 : Int32) (f0_v142 p1)) (f0_A_r183_2_389 p1 p2 p3 p5) (f5_x3n (0 : Int32) (3 : Int32) (f0_v42 p1) (3 : Int32) (f0_v86 p1) (3 : Int32) (f0_v142 p1)) (f0_A_r183_3_389 p1 p2 p3 p5) (f5_x4n (0 : Int32) (3 : Int32) (f0_v42 p1) (3 : Int32) (f0_v86 p1) (3 : Int32) (f0_v142 p1)) (f0_A_r183_4_389 p1 p2 p3 p5) (f5_x5n (0 : Int32) (3 : Int32) (f0_v42 p1) (3 : Int32) (f0_v86 p1) (3 : Int32) (f0_v142 p1)) (f0_A_r183_5_389 p1 p2 p3 p5)))
def f0_A_r183_4_401 (p1 : Int32) (p2 : Int32) (p3 : Int32) (p4 : Int32) (p5 : Int32) : Nat → Int32 := (if (f0_s0_300 p5) = (0 : Int32) then (f0_A_r183_4_389 p1 p2 p3 p5) else (f8_o13 (f2_o0 (f0_v217 p4) (0 : Int64) (f0_v229 p4) (f0_v241 p4) (0 : Int32) (0 : Int64) (0 : Int32) (0 : Int32)) (f2_o2 (f0_v217 p4) (0 : Int64) (f0_v229 p4) (f0_v241 p4) (0 : Int32) (0 : Int64) (0 : Int32) (0 : Int32)) (f2_o3 (f0_v217 p4) (0 : Int64) (f0_v229 p4) (f0_v241 p4) (0 : Int32) (0 : Int64) (0 : Int32) (0 : Int32)) (f0_F_unsettled_b153_389 p1 p2 p3 p5) (3 : Int32) (f0_v42 p1) (3 : Int32) (f0_v86 p1) (f5_x0n (0 : Int32) (3 : Int32) (f0_v42 p1) (3 : Int32) (f0_v86 p1) (3 : Int32) (f0_v142 p1)) (f0_A_r183_0_389 p1 p2 p3 p5) (f5_x1n (0 : Int32) (3 : Int32) (f0_v42 p1) (3 : Int32) (f0_v86 p1) (3 : Int32) (f0_v142 p1)) (f0_A_r183_1_389 p1 p2 p3 p5) (f5_x2n (0 : Int32) (3 : Int32) (f0_v42 p1) (3 : Int32) (f0_v86 p1) (3 : Int32) (f0_v142 p1)) (f0_A_r183_2_389 p1 p2 p3 p5) (f5_x3n (0 : Int32) (3 : Int32) (f0_v42 p1) (3 : Int32) (f0_v86 p1) (3 : Int32) (f0_v142 p1)) (f0_A_r183_3_389 p1 p2 p3 p5) (f5_x4n (0 : Int32) (3 : Int32) (f0_v42 p1) (3 : Int32) (f0_v86 p1) (3 : Int32) (f0_v142 p1)) (f0_A_r183_4_389 p1 p2 p3 p5) (f5_x5n (0 : Int32) (3 : Int32) (f0_v42 p1) (3 : Int32) (f0_v86 p1) (3 : Int32) (f0_v142 p1)) (f0_A_r183_5_389 p1 p2 p3 p5)))
def f0_A_r183_5_401 (p1 : Int32) (p2 : Int32) (p3 : Int32) (p4 : Int32) (p5 : Int32) : Nat → Int32 := (if (f0_s0_300 p5) = (0 : Int32) then (f0_A_r183_5_389 p1 p2 p3 p5) else (f8_o14 (f2_o0 (f0_v217 p4) (0 : Int64) (f0_v229 p4) (f0_v241 p4) (0 : Int32) (0 : Int64) (0 : Int32) (0 : Int32)) (f2_o2 (f0_v217 p4) (0 : Int64) (f0_v229 p4) (f0_v241 p4) (0 : Int32) (0 : Int64) (0 : Int32) (0 : Int32)) (f2_o3 (f0_v217 p4) (0 : Int64) (f0_v229 p4) (f0_v241 p4) (0 : Int32) (0 : Int64) (0 : Int32) (0 : Int32)) (f0_F_unsettled_b153_389 p1 p2 p3 p5) (3 : Int32) (f0_v42 p1) (3 : Int32) (f0_v86 p1) (f5_x0n (0 : Int32) (3 : Int32) (f0_v42 p1) (3 : Int32) (f0_v86 p1) (3 : Int32) (f0_v142 p1)) (f0_A_r183_0_389 p1 p2 p3 p5) (f5_x1n (0 : Int32) (3 : Int32) (f0_v42 p1) (3 : Int32) (f0_v86 p1) (3 : Int32) (f0_v142 p1)) (f0_A_r183_1_389 p1 p2 p3 p5) (f5_x2n (0 : Int32) (3 : Int32) (f0_v42 p1) (3 : Int32) (f0_v86 p1) (3 : Int32) (f0_v142 p1)) (f0_A_r183_2_389 p1 p2 p3 p5) (f5_x3n (0 : Int32) (3 : Int32) (f0_v42 p1) (3 : Int32) (f0_v86 p1) (3 : Int32) (f0_v142 p1)) (f0_A_r183_3_389 p1 p2 p3 p5) (f5_x4n (0 : Int32) (3 : Int32) (f0_v42 p1) (3 : Int32) (f0_v86 p1) (3 : Int32) (f0_v142 p1)) (f0_A_r183_4_389 p1 p2 p3 p5) (f5_x5n (0 : Int32) (3 : Int32) (f0_v42 p1) (3 : Int32) (f0_v86 p1) (3 : Int32) (f0_v142 p1)) (f0_A_r183_5_389 p1 p2 p3 p5)))
def f0_v408 (p1 : Int32) (p2 : Int32) (p3 : Int32) (p4 : Int32) (p5 : Int32) : Int32 := (f7 (f0_v251 p5) (f5_x2n (0 : Int32) (3 : Int32) (f0_v42 p1) (3 : Int32) (f0_v86 p1) (3 : Int32) (f0_v142 p1)) (f0_A_r183_2_401 p1 p2 p3 p4 p5) (3 : Int32) (f0_v86 p1) (f5_x3n (0 : Int32) (3 : Int32) (f0_v42 p1) (3 : Int32) (f0_v86 p1) (3 : Int32) (f0_v142 p1)) (f0_A_r183_3_401 p1 p2 p3 p4 p5) (f5_x4n (0 : Int32) (3 : Int32) (f0_v42 p1) (3 : Int32) (f0_v86 p1) (3 : Int32) (f0_v142 p1)) (f0_A_r183_4_401 p1 p2 p3 p4 p5))
def f0_s0_517 (p1 : Int32) (p2 : Int32) (p3 : Int32) (p4 : Int32) (p5 : Int32) : Int32 := (if ((p1 &&& (3 : Int32)) - (1 : Int32)) = (f0_v251 p5) then (if (f13 (0 : Int32) (f0_s0_274 p5) (f0_v151 p2) (f0_v175 p2) (f0_s0_287 p5) (f0_v184 p3) (f0_v208 p3) (f0_s0_300 p5) (f0_v217 p4) (f0_v241 p4)) = (f0_v251 p5) then (if (f0_v14 p1) = (f0_v251 p5) then (if (f13 (1 : Int32) (f0_s0_274 p5) (f0_v151 p2) (f0_v175 p2) (f0_s0_287 p5) (f0_v184 p3) (f0_v208 p3) (f0_s0_300 p5) (f0_v217 p4) (f0_v241 p4)) = (f0_v251 p5) then (if (f0_v23 p1) = (f0_v251 p5) then (if (f13 (2 : Int32) (f0_s0_274 p5) (f0_v151 p2) (f0_v175 p2) (f0_s0_287 p5) (f0_v184 p3) (f0_v208 p3) (f0_s0_300 p5) (f0_v217 p4) (f0_v241 p4)) = (f0_v251 p5) then (1 : Int32) else (0 : Int32)) else (1 : Int32)) else (0 : Int32)) else (if (f0_v23 p1) = (f0_v251 p5) then (if (f13 (2 : Int32) (f0_s0_274 p5) (f0_v151 p2) (f0_v175 p2) (f0_s0_287 p5) (f0_v184 p3) (f0_v208 p3) (f0_s0_300 p5) (f0_v217 p4) (f0_v241 p4)) = (f0_v251 p5) then (1 : Int32) else (0 : Int32)) else (1 : Int32))) else (0 : Int32)) else (if (f0_v14 p1) = (f0_v251 p5) then (if (f13 (1 : Int32) (f0_s0_274 p5) (f0_v151 p2) (f0_v175 p2) (f0_s0_287 p5) (f0_v184 p3) (f0_v208 p3) (f0_s0_300 p5) (f0_v217 p4) (f0_v241 p4)) = (f0_v251 p5) then (if (f0_v23 p1) = (f0_v251 p5) then (if (f13 (2 : Int32) (f0_s0_274 p5) (f0_v151 p2) (f0_v175 p2) (f0_s0_287 p5) (f0_v184 p3) (f0_v208 p3) (f0_s0_300 p5) (f0_v217 p4) (f0_v241 p4)) = (f0_v251 p5) then (1 : Int32) else (0 : Int32)) else (1 : Int32)) else (0 : Int32)) else (if (f0_v23 p1) = (f0_v251 p5) then (if (f13 (2 : Int32) (f0_s0_274 p5) (f0_v151 p2) (f0_v175 p2) (f0_s0_287 p5) (f0_v184 p3) (f0_v208 p3) (f0_s0_300 p5) (f0_v217 p4) (f0_v241 p4)) = (f0_v251 p5) then (1 : Int32) else (0 : Int32)) else (1 : Int32))))
def f0_l31_555 (p1 : Int32) (p4 : Int32) (p5 : Int32) : Int32 := (if (f0_s0_300 p5) = (0 : Int32) then (-1 : Int32) else (if (f0_v229 p4) = (f0_v251 p5) then (if (f0_v241 p4) = (f0_v251 p5) then (-1 : Int32) else (if ((f0_v42 p1) ((f0_v217 p4)).toNatClampNeg) = (f0_v251 p5) then (f0_v241 p4) else (-1 : Int32))) else (-1 : Int32)))
def f0_l31_588 (p1 : Int32) (p3 : Int32) (p4 : Int32) (p5 : Int32) : Int32 := (if (f0_s0_287 p5) = (0 : Int32) then (f0_l31_555 p1 p4 p5) else (if (f0_v196 p3) = (f0_v251 p5) then (if (f0_v208 p3) = (f0_v251 p5) then (f0_l31_555 p1 p4 p5) else (if ((f0_v42 p1) ((f0_v184 p3)).toNatClampNeg) = (f0_v251 p5) then (f0_v208 p3) else (f0_l31_555 p1 p4 p5))) else (f0_l31_555 p1 p4 p5)))
def f0_l31_621 (p1 : Int32) (p2 : Int32) (p3 : Int32) (p4 : Int32) (p5 : Int32) : Int32 := (if (f0_s0_274 p5) = (0 : Int32) then (f0_l31_588 p1 p3 p4 p5) else (if (f0_v163 p2) = (f0_v251 p5) then (if (f0_v175 p2) = (f0_v251 p5) then (f0_l31_588 p1 p3 p4 p5) else (if ((f0_v42 p1) ((f0_v151 p2)).toNatClampNeg) = (f0_v251 p5) then (f0_v175 p2) else (f0_l31_588 p1 p3 p4 p5))) else (f0_l31_588 p1 p3 p4 p5)))
def f0_l32_647 (p4 : Int32) (p5 : Int32) : Int32 := (if (f0_s0_300 p5) = (0 : Int32) then (-1 : Int32) else (if (f0_v229 p4) = (f0_v251 p5) then (if (f0_v241 p4) = (f0_v251 p5) then (-1 : Int32) else (f0_v241 p4)) else (-1 : Int32)))
def f0_l32_670 (p3 : Int32) (p4 : Int32) (p5 : Int32) : Int32 := (if (f0_s0_287 p5) = (0 : Int32) then (f0_l32_647 p4 p5) else (if (f0_v196 p3) = (f0_v251 p5) then (if (f0_v208 p3) = (f0_v251 p5) then (f0_l32_647 p4 p5) else (f0_v208 p3)) else (f0_l32_647 p4 p5)))
def f0_l32_693 (p2 : Int32) (p3 : Int32) (p4 : Int32) (p5 : Int32) : Int32 := (if (f0_s0_274 p5) = (0 : Int32) then (f0_l32_670 p3 p4 p5) else (if (f0_v163 p2) = (f0_v251 p5) then (if (f0_v175 p2) = (f0_v251 p5) then (f0_l32_670 p3 p4 p5) else (f0_v175 p2)) else (f0_l32_670 p3 p4 p5)))
def f0_l33_733 (p1 : Int32) (p2 : Int32) (p3 : Int32) (p4 : Int32) (p5 : Int32) : Int32 := (if (f0_s0_517 p1 p2 p3 p4 p5) = (0 : Int32) then (if (f0_l31_621 p1 p2 p3 p4 p5) < (0 : Int32) then (if (f0_l32_693 p2 p3 p4 p5) < (0 : Int32) then (f0_v251 p5) else (f0_l32_693 p2 p3 p4 p5)) else (f0_l31_621 p1 p2 p3 p4 p5)) else (f0_v251 p5))
theorem own_v151 (p : Int32) : 0 ≤ (f0_v151 p).toInt ∧ (f0_v151 p).toInt < 3 := own_r3 _ (own_255 _)
theorem own_v163 (p : Int32) : 0 ≤ (f0_v163 p).toInt ∧ (f0_v163 p).toInt < 3 := own_r3 _ (own_255 _)
theorem own_v175 (p : Int32) : 0 ≤ (f0_v175 p).toInt ∧ (f0_v175 p).toInt < 3 := own_r3 _ (own_255 _)
theorem own_v184 (p : Int32) : 0 ≤ (f0_v184 p).toInt ∧ (f0_v184 p).toInt < 3 := own_r3 _ (own_255 _)
theorem own_v196 (p : Int32) : 0 ≤ (f0_v196 p).toInt ∧ (f0_v196 p).toInt < 3 := own_r3 _ (own_255 _)
theorem own_v208 (p : Int32) : 0 ≤ (f0_v208 p).toInt ∧ (f0_v208 p).toInt < 3 := own_r3 _ (own_255 _)
theorem own_v217 (p : Int32) : 0 ≤ (f0_v217 p).toInt ∧ (f0_v217 p).toInt < 3 := own_r3 _ (own_255 _)
theorem own_v229 (p : Int32) : 0 ≤ (f0_v229 p).toInt ∧ (f0_v229 p).toInt < 3 := own_r3 _ (own_255 _)
theorem own_v241 (p : Int32) : 0 ≤ (f0_v241 p).toInt ∧ (f0_v241 p).toInt < 3 := own_r3 _ (own_255 _)
theorem own_v251 (p : Int32) : 0 ≤ (f0_v251 p).toInt ∧ (f0_v251 p).toInt < 3 := own_r3 _ (own_255 _)
theorem own_m1 (x : Int32) : -1 ≤ ((x &&& 3) - 1).toInt ∧ ((x &&& 3) - 1).toInt < 3 := by
  have a := c_mask x 3 2 (by decide) rfl
  have b := c_isub (x &&& 3) 1
  have r := rng32 ((x &&& 3) - 1)
  have e := own_e1
  omega
theorem own_ia (p : Int32) : ∀ i, (f0_v42 p i).toInt < 3 := by
  intro i
  unfold f0_v42 f0_v37 f0_v32 ownU
  split
  · exact (own_m1 _).2
  · split
    · exact (own_m1 _).2
    · split
      · exact (own_m1 _).2
      · show (0 : Int32).toInt < 3; decide
theorem own_fit (p : Int32) : ∀ i, fits .boolean (.int (f0_v142 p i)) = true := by
  intro i
  unfold f0_v142 f0_v125 f0_v108 ownU
  split
  · exact fits_nar_bool _
  · split
    · exact fits_nar_bool _
    · split
      · exact fits_nar_bool _
      · show fits .boolean (.int 0) = true; decide
def f0 (p1 : Int32) (p2 : Int32) (p3 : Int32) (p4 : Int32) (p5 : Int32) : Int32 := (if (f0_v408 p1 p2 p3 p4 p5) = (f0_l33_733 p1 p2 p3 p4 p5) then (1 : Int32) else (0 : Int32))
def Q0 (Z : State) (p1 : Int32) (p2 : Int32) (p3 : Int32) (p4 : Int32) (p5 : Int32) (h0 : Heap) (n0 : Nat) (v : Option Value) (h : Heap) (L : List Loc) : Prop := v = some (.int (f0 p1 p2 p3 p4 p5)) ∧ Fr n0 L ∧ True
set_option maxRecDepth 65536 in
set_option maxHeartbeats 40000000 in
theorem rm0 (l : Launch) (Z : State) (a0 : Array Value) (hw : ∀ d ∈ tables_1, d.before a0 Z = true) (ws : List Jvm.Cond) (p1 : Int32) (p2 : Int32) (p3 : Int32) (p4 : Int32) (p5 : Int32) (h0 : Heap) (n0 : Nat) (Z0 : n0 ≤ h0.size) :
    MetFree l x (head1 (Jvm.Cond.code x code maxLocals ret :: ws) room_1) (fun a U => a = #[(.int p1), (.int p2), (.int p3), (.int p4), (.int p5)] ∧ Z.Warmed39 U.vm ∧ U.heap = h0) (fun _ _ _ _ _ => True) (fun _ U o U' => ∃ v L, o = .returned v ∧ Q0 Z p1 p2 p3 p4 p5 h0 n0 v U'.heap L ∧ FrameEnd U o U' L room_1.cells room_1.slots) := by
  refine MetFree.of_bodySF (plainFor_of_name pn_0) hisR ?_
  intro p e s m args below meth c s₁ Bd hml0 hP hK
  obtain ⟨rfl, hZ, hh⟩ := hP
  have hx := Bd.exec
  have hby := Bd.bytes
  have hml : c.maxLocals = 34 := hml0
  have hown : s.vm.findClass "com/example/podflow/podflow/simulation/BallotVotePinLaw" = some m.cls := findClass_of_methodNamed Bd.named
  have hnm := (name_of_methodNamed Bd.named Bd.method).1
  have X0 : Stand p l e room_1 s m #[(.int p1), (.int p2), (.int p3), (.int p4), (.int p5)] below meth c s₁ [] 0 0 := Stand.of_body Bd
  have e0 : s₁.heap = h0 := by rw [← hh, Bd.state]; rfl
  have N0 := Fr.nil n0
  have pre0 : ∀ t, Steps p.tables e below (s₁.setTop (mkF m 0 #[.val (.int p1), .val (.int p2), .val (.int p3), .val (.int p4), .val (.int p5), .unset, .unset, .unset, .unset, .unset, .unset, .unset, .unset, .unset, .unset, .unset, .unset, .unset, .unset, .unset, .unset, .unset, .unset, .unset, .unset, .unset, .unset, .unset, .unset, .unset, .unset, .unset, .unset, .unset] [])) t → Steps p.tables e below (s₁.setTop (entryFrame m #[(.int p1), (.int p2), (.int p3), (.int p4), (.int p5)] maxLocals)) t := fun t k => castTop (ef_0 m p1 p2 p3 p4 p5) k
  obtain ⟨T6, h6, k6, X6, e6, E6, A6, st6⟩ := newP X0 hx hZ (hw _ (List.mem_of_getElem? (i := 0) rfl)) e0 (g := (mkF m 26 #[.val (.int p1), .val (.int p2), .val (.int p3), .val (.int p4), .val (.int p5), .val (.int ((p1 &&& (3 : Int32)) - (1 : Int32))), .val (.int (f0_v14 p1)), .val (.int (f0_v23 p1)), .unset, .unset, .unset, .unset, .unset, .unset, .unset, .unset, .unset, .unset, .unset, .unset, .unset, .unset, .unset, .unset, .unset, .unset, .unset, .unset, .unset, .unset, .unset, .unset, .unset, .unset] [(.int (3 : Int32))])) rfl (hb hby at_26) rfl (by decide) (cap := 3) (by decide) (by decide) (by decide) (by decide)
  obtain ⟨b6, g6⟩ : ∃ z, z = h0.size := ⟨_, rfl⟩
  rw [← g6] at A6 st6
  have g_b6 : n0 ≤ b6 := Nat.le_trans Z0 (Nat.le_of_eq g6.symm)
  have c7 : n0 ≤ h6.size := Nat.le_trans Z0 E6.1
  have c8 : IAr Z h6 b6 .int (3 : Int32) (fun _ => 0) := IAr.new A6 (by decide) rfl
  obtain ⟨T9, h9, X9, e9, W9, V9, st9⟩ := sI X6 hx hZ e6 c8 (j := (0 : Int32)) ⟨by decide, by first | decide | assumption⟩ (g := (mkF m 32 #[.val (.int p1), .val (.int p2), .val (.int p3), .val (.int p4), .val (.int p5), .val (.int ((p1 &&& (3 : Int32)) - (1 : Int32))), .val (.int (f0_v14 p1)), .val (.int (f0_v23 p1)), .unset, .unset, .unset, .unset, .unset, .unset, .unset, .unset, .unset, .unset, .unset, .unset, .unset, .unset, .unset, .unset, .unset, .unset, .unset, .unset, .unset, .unset, .unset, .unset, .unset, .unset] [(.int ((p1 &&& (3 : Int32)) - (1 : Int32))), (.int (0 : Int32)), (.ref b6), (.ref b6)])) rfl rfl (hb hby at_32)
  have N9 := Fr.snoc X9 N0 g_b6
  have c10 : n0 ≤ h9.size := Nat.le_trans c7 (Keep.of_wr W9).1
  have c11 : IAr Z h9 b6 .int (3 : Int32) (f0_v32 p1) := V9
  obtain ⟨T12, h12, X12, e12, W12, V12, st12⟩ := sI X9 hx hZ e9 c11 (j := (1 : Int32)) ⟨by decide, by first | decide | assumption⟩ (g := (mkF m 37 #[.val (.int p1), .val (.int p2), .val (.int p3), .val (.int p4), .val (.int p5), .val (.int ((p1 &&& (3 : Int32)) - (1 : Int32))), .val (.int (f0_v14 p1)), .val (.int (f0_v23 p1)), .unset, .unset, .unset, .unset, .unset, .unset, .unset, .unset, .unset, .unset, .unset, .unset, .unset, .unset, .unset, .unset, .unset, .unset, .unset, .unset, .unset, .unset, .unset, .unset, .unset, .unset] [(.int (f0_v14 p1)), (.int (1 : Int32)), (.ref b6), (.ref b6)])) rfl rfl (hb hby at_37)
  have N12 := Fr.snoc X12 N9 g_b6
  have c13 : n0 ≤ h12.size := Nat.le_trans c10 (Keep.of_wr W12).1
  have c14 : IAr Z h12 b6 .int (3 : Int32) (f0_v37 p1) := V12
  obtain ⟨T15, h15, X15, e15, W15, V15, st15⟩ := sI X12 hx hZ e12 c14 (j := (2 : Int32)) ⟨by decide, by first | decide | assumption⟩ (g := (mkF m 42 #[.val (.int p1), .val (.int p2), .val (.int p3), .val (.int p4), .val (.int p5), .val (.int ((p1 &&& (3 : Int32)) - (1 : Int32))), .val (.int (f0_v14 p1)), .val (.int (f0_v23 p1)), .unset, .unset, .unset, .unset, .unset, .unset, .unset, .unset, .unset, .unset, .unset, .unset, .unset, .unset, .unset, .unset, .unset, .unset, .unset, .unset, .unset, .unset, .unset, .unset, .unset, .unset] [(.int (f0_v23 p1)), (.int (2 : Int32)), (.ref b6), (.ref b6)])) rfl rfl (hb hby at_42)
  have N15 := Fr.snoc X15 N12 g_b6
  have c16 : n0 ≤ h15.size := Nat.le_trans c13 (Keep.of_wr W15).1
  have c17 : IAr Z h15 b6 .int (3 : Int32) (f0_v42 p1) := V15
  obtain ⟨T18, h18, k18, X18, e18, E18, A18, st18⟩ := newP X15 hx hZ (hw _ (List.mem_of_getElem? (i := 0) rfl)) e15 (g := (mkF m 46 #[.val (.int p1), .val (.int p2), .val (.int p3), .val (.int p4), .val (.int p5), .val (.int ((p1 &&& (3 : Int32)) - (1 : Int32))), .val (.int (f0_v14 p1)), .val (.int (f0_v23 p1)), .val (.ref b6), .unset, .unset, .unset, .unset, .unset, .unset, .unset, .unset, .unset, .unset, .unset, .unset, .unset, .unset, .unset, .unset, .unset, .unset, .unset, .unset, .unset, .unset, .unset, .unset, .unset] [(.int (3 : Int32))])) rfl (hb hby at_46) rfl (by decide) (cap := 3) (by decide) (by decide) (by decide) (by decide)
  obtain ⟨b18, g18⟩ : ∃ z, z = h15.size := ⟨_, rfl⟩
  rw [← g18] at A18 st18
  have ne_b6_b18 : b6 ≠ b18 := Nat.ne_of_lt (Nat.lt_of_lt_of_le c17.lt (Nat.le_of_eq g18.symm))
  have g_b18 : n0 ≤ b18 := Nat.le_trans c16 (Nat.le_of_eq g18.symm)
  have c19 : n0 ≤ h18.size := Nat.le_trans c16 E18.1
  have c20 : IAr Z h18 b6 .int (3 : Int32) (f0_v42 p1) := c17.ext E18
  have c21 : IAr Z h18 b18 .int (3 : Int32) (fun _ => 0) := IAr.new A18 (by decide) rfl
  obtain ⟨_, _, ⟨T22, L22, k22, n22⟩, -, X22, ⟨Lc22, hQ22, l22, y22, z22⟩, st22⟩ := Jvm.LawKit.callS X18 hx (y := (⟨"com/example/podflow/podflow/simulation/BallotVotePinLaw", "cnt", "(IIII)I"⟩ : MethodName)) hown (mvT hZ (hw _ (List.mem_of_getElem? (i := 1) rfl))) (mvT hZ (hw _ (List.mem_of_getElem? (i := 2) rfl))) (mvT hZ (hw _ (List.mem_of_getElem? (i := 3) rfl))) (mvT hZ (hw _ (List.mem_of_getElem? (i := 4) rfl))) (by decide) (backOf (W := 3) (rm1 l Z a0 hw [] ((p1 &&& (3 : Int32)) - (1 : Int32)) (f0_v14 p1) (f0_v23 p1) (0 : Int32) h18 n0 c19 ) hZ (hw _ (List.mem_of_getElem? (i := 4) rfl)) (hw _ (List.mem_of_getElem? (i := 3) rfl)) (by decide) (by decide)) (g := (mkF m 57 #[.val (.int p1), .val (.int p2), .val (.int p3), .val (.int p4), .val (.int p5), .val (.int ((p1 &&& (3 : Int32)) - (1 : Int32))), .val (.int (f0_v14 p1)), .val (.int (f0_v23 p1)), .val (.ref b6), .unset, .unset, .unset, .unset, .unset, .unset, .unset, .unset, .unset, .unset, .unset, .unset, .unset, .unset, .unset, .unset, .unset, .unset, .unset, .unset, .unset, .unset, .unset, .unset, .unset] [(.int (0 : Int32)), (.int (f0_v23 p1)), (.int (f0_v14 p1)), (.int ((p1 &&& (3 : Int32)) - (1 : Int32))), (.int (0 : Int32)), (.ref b18), (.ref b18)])) rfl (by rw [hml]; rfl) (argsL := [(.int ((p1 &&& (3 : Int32)) - (1 : Int32))), (.int (f0_v14 p1)), (.int (f0_v23 p1)), (.int (0 : Int32))]) (rest := [(.int (0 : Int32)), (.ref b18), (.ref b18)]) (lenOf pd_4 rfl) rfl (by show 2 * 0 + _ ≤ _; exact Nat.le_of_eq rfl) (hb hby at_57) (fun _ _ => ⟨rfl, e18, (by decide : 2 + 0 ≤ _), (by decide : 6 + 0 ≤ _)⟩)
  dsimp only [Pt.U, Pt.locs, Pt.cells, Pt.slots] at X22 l22 y22 z22 st22 hQ22
  subst l22 y22 z22
  obtain ⟨rfl, N22q, e22⟩ := hQ22
  have N22 := Fr.app N15 N22q
  obtain ⟨T23, h23, X23, e23, W23, V23, st23⟩ := sI X22 hx hZ e22 c21 (j := (0 : Int32)) ⟨by decide, by first | decide | assumption⟩ (g := (mkF m 60 #[.val (.int p1), .val (.int p2), .val (.int p3), .val (.int p4), .val (.int p5), .val (.int ((p1 &&& (3 : Int32)) - (1 : Int32))), .val (.int (f0_v14 p1)), .val (.int (f0_v23 p1)), .val (.ref b6), .unset, .unset, .unset, .unset, .unset, .unset, .unset, .unset, .unset, .unset, .unset, .unset, .unset, .unset, .unset, .unset, .unset, .unset, .unset, .unset, .unset, .unset, .unset, .unset, .unset] [(.int (f1 ((p1 &&& (3 : Int32)) - (1 : Int32)) (f0_v14 p1) (f0_v23 p1) (0 : Int32))), (.int (0 : Int32)), (.ref b18), (.ref b18)])) rfl rfl (hb hby at_60)
  have N23 := Fr.snoc X23 N22 g_b18
  have c24 : n0 ≤ h23.size := Nat.le_trans c19 (Keep.of_wr W23).1
  have c25 : IAr Z h23 b6 .int (3 : Int32) (f0_v42 p1) := c20.other W23 ne_b6_b18
  have c26 : IAr Z h23 b18 .int (3 : Int32) (f0_v60 p1) := V23
  obtain ⟨_, _, ⟨T27, L27, k27, n27⟩, -, X27, ⟨Lc27, hQ27, l27, y27, z27⟩, st27⟩ := Jvm.LawKit.callS X23 hx (y := (⟨"com/example/podflow/podflow/simulation/BallotVotePinLaw", "cnt", "(IIII)I"⟩ : MethodName)) hown (mvT hZ (hw _ (List.mem_of_getElem? (i := 1) rfl))) (mvT hZ (hw _ (List.mem_of_getElem? (i := 2) rfl))) (mvT hZ (hw _ (List.mem_of_getElem? (i := 3) rfl))) (mvT hZ (hw _ (List.mem_of_getElem? (i := 4) rfl))) (by decide) (backOf (W := 3) (rm1 l Z a0 hw [] ((p1 &&& (3 : Int32)) - (1 : Int32)) (f0_v14 p1) (f0_v23 p1) (1 : Int32) h23 n0 c24 ) hZ (hw _ (List.mem_of_getElem? (i := 4) rfl)) (hw _ (List.mem_of_getElem? (i := 3) rfl)) (by decide) (by decide)) (g := (mkF m 70 #[.val (.int p1), .val (.int p2), .val (.int p3), .val (.int p4), .val (.int p5), .val (.int ((p1 &&& (3 : Int32)) - (1 : Int32))), .val (.int (f0_v14 p1)), .val (.int (f0_v23 p1)), .val (.ref b6), .unset, .unset, .unset, .unset, .unset, .unset, .unset, .unset, .unset, .unset, .unset, .unset, .unset, .unset, .unset, .unset, .unset, .unset, .unset, .unset, .unset, .unset, .unset, .unset, .unset] [(.int (1 : Int32)), (.int (f0_v23 p1)), (.int (f0_v14 p1)), (.int ((p1 &&& (3 : Int32)) - (1 : Int32))), (.int (1 : Int32)), (.ref b18), (.ref b18)])) rfl (by rw [hml]; rfl) (argsL := [(.int ((p1 &&& (3 : Int32)) - (1 : Int32))), (.int (f0_v14 p1)), (.int (f0_v23 p1)), (.int (1 : Int32))]) (rest := [(.int (1 : Int32)), (.ref b18), (.ref b18)]) (lenOf pd_4 rfl) rfl (by show 2 * 0 + _ ≤ _; exact Nat.le_of_eq rfl) (hb hby at_70) (fun _ _ => ⟨rfl, e23, (by decide : 2 + 0 ≤ _), (by decide : 6 + 0 ≤ _)⟩)
  dsimp only [Pt.U, Pt.locs, Pt.cells, Pt.slots] at X27 l27 y27 z27 st27 hQ27
  subst l27 y27 z27
  obtain ⟨rfl, N27q, e27⟩ := hQ27
  have N27 := Fr.app N23 N27q
  obtain ⟨T28, h28, X28, e28, W28, V28, st28⟩ := sI X27 hx hZ e27 c26 (j := (1 : Int32)) ⟨by decide, by first | decide | assumption⟩ (g := (mkF m 73 #[.val (.int p1), .val (.int p2), .val (.int p3), .val (.int p4), .val (.int p5), .val (.int ((p1 &&& (3 : Int32)) - (1 : Int32))), .val (.int (f0_v14 p1)), .val (.int (f0_v23 p1)), .val (.ref b6), .unset, .unset, .unset, .unset, .unset, .unset, .unset, .unset, .unset, .unset, .unset, .unset, .unset, .unset, .unset, .unset, .unset, .unset, .unset, .unset, .unset, .unset, .unset, .unset, .unset] [(.int (f1 ((p1 &&& (3 : Int32)) - (1 : Int32)) (f0_v14 p1) (f0_v23 p1) (1 : Int32))), (.int (1 : Int32)), (.ref b18), (.ref b18)])) rfl rfl (hb hby at_73)
  have N28 := Fr.snoc X28 N27 g_b18
  have c29 : n0 ≤ h28.size := Nat.le_trans c24 (Keep.of_wr W28).1
  have c30 : IAr Z h28 b6 .int (3 : Int32) (f0_v42 p1) := c25.other W28 ne_b6_b18
  have c31 : IAr Z h28 b18 .int (3 : Int32) (f0_v73 p1) := V28
  obtain ⟨_, _, ⟨T32, L32, k32, n32⟩, -, X32, ⟨Lc32, hQ32, l32, y32, z32⟩, st32⟩ := Jvm.LawKit.callS X28 hx (y := (⟨"com/example/podflow/podflow/simulation/BallotVotePinLaw", "cnt", "(IIII)I"⟩ : MethodName)) hown (mvT hZ (hw _ (List.mem_of_getElem? (i := 1) rfl))) (mvT hZ (hw _ (List.mem_of_getElem? (i := 2) rfl))) (mvT hZ (hw _ (List.mem_of_getElem? (i := 3) rfl))) (mvT hZ (hw _ (List.mem_of_getElem? (i := 4) rfl))) (by decide) (backOf (W := 3) (rm1 l Z a0 hw [] ((p1 &&& (3 : Int32)) - (1 : Int32)) (f0_v14 p1) (f0_v23 p1) (2 : Int32) h28 n0 c29 ) hZ (hw _ (List.mem_of_getElem? (i := 4) rfl)) (hw _ (List.mem_of_getElem? (i := 3) rfl)) (by decide) (by decide)) (g := (mkF m 83 #[.val (.int p1), .val (.int p2), .val (.int p3), .val (.int p4), .val (.int p5), .val (.int ((p1 &&& (3 : Int32)) - (1 : Int32))), .val (.int (f0_v14 p1)), .val (.int (f0_v23 p1)), .val (.ref b6), .unset, .unset, .unset, .unset, .unset, .unset, .unset, .unset, .unset, .unset, .unset, .unset, .unset, .unset, .unset, .unset, .unset, .unset, .unset, .unset, .unset, .unset, .unset, .unset, .unset] [(.int (2 : Int32)), (.int (f0_v23 p1)), (.int (f0_v14 p1)), (.int ((p1 &&& (3 : Int32)) - (1 : Int32))), (.int (2 : Int32)), (.ref b18), (.ref b18)])) rfl (by rw [hml]; rfl) (argsL := [(.int ((p1 &&& (3 : Int32)) - (1 : Int32))), (.int (f0_v14 p1)), (.int (f0_v23 p1)), (.int (2 : Int32))]) (rest := [(.int (2 : Int32)), (.ref b18), (.ref b18)]) (lenOf pd_4 rfl) rfl (by show 2 * 0 + _ ≤ _; exact Nat.le_of_eq rfl) (hb hby at_83) (fun _ _ => ⟨rfl, e28, (by decide : 2 + 0 ≤ _), (by decide : 6 + 0 ≤ _)⟩)
  dsimp only [Pt.U, Pt.locs, Pt.cells, Pt.slots] at X32 l32 y32 z32 st32 hQ32
  subst l32 y32 z32
  obtain ⟨rfl, N32q, e32⟩ := hQ32
  have N32 := Fr.app N28 N32q
  obtain ⟨T33, h33, X33, e33, W33, V33, st33⟩ := sI X32 hx hZ e32 c31 (j := (2 : Int32)) ⟨by decide, by first | decide | assumption⟩ (g := (mkF m 86 #[.val (.int p1), .val (.int p2), .val (.int p3), .val (.int p4), .val (.int p5), .val (.int ((p1 &&& (3 : Int32)) - (1 : Int32))), .val (.int (f0_v14 p1)), .val (.int (f0_v23 p1)), .val (.ref b6), .unset, .unset, .unset, .unset, .unset, .unset, .unset, .unset, .unset, .unset, .unset, .unset, .unset, .unset, .unset, .unset, .unset, .unset, .unset, .unset, .unset, .unset, .unset, .unset, .unset] [(.int (f1 ((p1 &&& (3 : Int32)) - (1 : Int32)) (f0_v14 p1) (f0_v23 p1) (2 : Int32))), (.int (2 : Int32)), (.ref b18), (.ref b18)])) rfl rfl (hb hby at_86)
  have N33 := Fr.snoc X33 N32 g_b18
  have c34 : n0 ≤ h33.size := Nat.le_trans c29 (Keep.of_wr W33).1
  have c35 : IAr Z h33 b6 .int (3 : Int32) (f0_v42 p1) := c30.other W33 ne_b6_b18
  have c36 : IAr Z h33 b18 .int (3 : Int32) (f0_v86 p1) := V33
  obtain ⟨T37, h37, k37, X37, e37, E37, A37, EX37, st37⟩ := newPE X33 hx hZ (hw _ (List.mem_of_getElem? (i := 5) rfl)) e33 (g := (mkF m 90 #[.val (.int p1), .val (.int p2), .val (.int p3), .val (.int p4), .val (.int p5), .val (.int ((p1 &&& (3 : Int32)) - (1 : Int32))), .val (.int (f0_v14 p1)), .val (.int (f0_v23 p1)), .val (.ref b6), .val (.ref b18), .unset, .unset, .unset, .unset, .unset, .unset, .unset, .unset, .unset, .unset, .unset, .unset, .unset, .unset, .unset, .unset, .unset, .unset, .unset, .unset, .unset, .unset, .unset, .unset] [(.int (3 : Int32))])) rfl (hb hby at_90) rfl (by decide) (cap := 3) (by decide) (by decide) (by decide) (by decide) (ad := "[Z") (by decide)
  obtain ⟨b37, g37⟩ : ∃ z, z = h33.size := ⟨_, rfl⟩
  rw [← g37] at A37 EX37 st37
  have ne_b6_b37 : b6 ≠ b37 := Nat.ne_of_lt (Nat.lt_of_lt_of_le c35.lt (Nat.le_of_eq g37.symm))
  have ne_b18_b37 : b18 ≠ b37 := Nat.ne_of_lt (Nat.lt_of_lt_of_le c36.lt (Nat.le_of_eq g37.symm))
  have g_b37 : n0 ≤ b37 := Nat.le_trans c34 (Nat.le_of_eq g37.symm)
  have c38 : n0 ≤ h37.size := Nat.le_trans c34 E37.1
  have c39 : IAr Z h37 b6 .int (3 : Int32) (f0_v42 p1) := c35.ext E37
  have c40 : IAr Z h37 b18 .int (3 : Int32) (f0_v86 p1) := c36.ext E37
  have c41 : IAr Z h37 b37 .boolean (3 : Int32) (fun _ => 0) := IAr.new A37 (by decide) rfl
  have pre1 : ∀ t, Steps p.tables e below (T37.setTop (mkF m 100 #[.val (.int p1), .val (.int p2), .val (.int p3), .val (.int p4), .val (.int p5), .val (.int ((p1 &&& (3 : Int32)) - (1 : Int32))), .val (.int (f0_v14 p1)), .val (.int (f0_v23 p1)), .val (.ref b6), .val (.ref b18), .unset, .unset, .unset, .unset, .unset, .unset, .unset, .unset, .unset, .unset, .unset, .unset, .unset, .unset, .unset, .unset, .unset, .unset, .unset, .unset, .unset, .unset, .unset, .unset] [(.int (((p1.toUInt32 >>> ((6 : Int32) &&& 31).toUInt32).toInt32) &&& (1 : Int32))), (.int (0 : Int32)), (.ref b37), (.ref b37)])) t → Steps p.tables e below (s₁.setTop (entryFrame m #[(.int p1), (.int p2), (.int p3), (.int p4), (.int p5)] maxLocals)) t := by
    intro t k
    refine pre0 t ?_
    refine XS.iloadN X0.here hx rfl (hb hby at_0) rfl ?_
    refine XS.iconst X0.here hx rfl (hb hby at_1) ?_
    refine XS.iand X0.here hx rfl (hb hby at_2) rfl ?_
    show Steps p.tables e below (s₁.setTop (mkF m 3 #[.val (.int p1), .val (.int p2), .val (.int p3), .val (.int p4), .val (.int p5), .unset, .unset, .unset, .unset, .unset, .unset, .unset, .unset, .unset, .unset, .unset, .unset, .unset, .unset, .unset, .unset, .unset, .unset, .unset, .unset, .unset, .unset, .unset, .unset, .unset, .unset, .unset, .unset, .unset] [(.int (p1 &&& (3 : Int32)))])) _
    refine XS.iconst X0.here hx rfl (hb hby at_3) ?_
    refine XS.isub X0.here hx rfl (hb hby at_4) rfl ?_
    refine XS.istore X0.here hx rfl (hb hby at_5) rfl (l' := #[.val (.int p1), .val (.int p2), .val (.int p3), .val (.int p4), .val (.int p5), .val (.int ((p1 &&& (3 : Int32)) - (1 : Int32))), .unset, .unset, .unset, .unset, .unset, .unset, .unset, .unset, .unset, .unset, .unset, .unset, .unset, .unset, .unset, .unset, .unset, .unset, .unset, .unset, .unset, .unset, .unset, .unset, .unset, .unset, .unset, .unset]) rfl ?_
    refine XS.iloadN X0.here hx rfl (hb hby at_7) rfl ?_
    show Steps p.tables e below (s₁.setTop (mkF m 8 #[.val (.int p1), .val (.int p2), .val (.int p3), .val (.int p4), .val (.int p5), .val (.int ((p1 &&& (3 : Int32)) - (1 : Int32))), .unset, .unset, .unset, .unset, .unset, .unset, .unset, .unset, .unset, .unset, .unset, .unset, .unset, .unset, .unset, .unset, .unset, .unset, .unset, .unset, .unset, .unset, .unset, .unset, .unset, .unset, .unset, .unset] [(.int p1)])) _
    refine XS.iconst X0.here hx rfl (hb hby at_8) ?_
    refine XS.iushr X0.here hx rfl (hb hby at_9) rfl ?_
    refine XS.iconst X0.here hx rfl (hb hby at_10) ?_
    refine XS.iand X0.here hx rfl (hb hby at_11) rfl ?_
    show Steps p.tables e below (s₁.setTop (mkF m 12 #[.val (.int p1), .val (.int p2), .val (.int p3), .val (.int p4), .val (.int p5), .val (.int ((p1 &&& (3 : Int32)) - (1 : Int32))), .unset, .unset, .unset, .unset, .unset, .unset, .unset, .unset, .unset, .unset, .unset, .unset, .unset, .unset, .unset, .unset, .unset, .unset, .unset, .unset, .unset, .unset, .unset, .unset, .unset, .unset, .unset, .unset] [(.int (((p1.toUInt32 >>> ((2 : Int32) &&& 31).toUInt32).toInt32) &&& (3 : Int32)))])) _
    refine XS.iconst X0.here hx rfl (hb hby at_12) ?_
    refine XS.isub X0.here hx rfl (hb hby at_13) rfl ?_
    refine XS.istore X0.here hx rfl (hb hby at_14) rfl (l' := #[.val (.int p1), .val (.int p2), .val (.int p3), .val (.int p4), .val (.int p5), .val (.int ((p1 &&& (3 : Int32)) - (1 : Int32))), .val (.int (f0_v14 p1)), .unset, .unset, .unset, .unset, .unset, .unset, .unset, .unset, .unset, .unset, .unset, .unset, .unset, .unset, .unset, .unset, .unset, .unset, .unset, .unset, .unset, .unset, .unset, .unset, .unset, .unset, .unset]) rfl ?_
    refine XS.iloadN X0.here hx rfl (hb hby at_16) rfl ?_
    show Steps p.tables e below (s₁.setTop (mkF m 17 #[.val (.int p1), .val (.int p2), .val (.int p3), .val (.int p4), .val (.int p5), .val (.int ((p1 &&& (3 : Int32)) - (1 : Int32))), .val (.int (f0_v14 p1)), .unset, .unset, .unset, .unset, .unset, .unset, .unset, .unset, .unset, .unset, .unset, .unset, .unset, .unset, .unset, .unset, .unset, .unset, .unset, .unset, .unset, .unset, .unset, .unset, .unset, .unset, .unset] [(.int p1)])) _
    refine XS.iconst X0.here hx rfl (hb hby at_17) ?_
    refine XS.iushr X0.here hx rfl (hb hby at_18) rfl ?_
    refine XS.iconst X0.here hx rfl (hb hby at_19) ?_
    refine XS.iand X0.here hx rfl (hb hby at_20) rfl ?_
    show Steps p.tables e below (s₁.setTop (mkF m 21 #[.val (.int p1), .val (.int p2), .val (.int p3), .val (.int p4), .val (.int p5), .val (.int ((p1 &&& (3 : Int32)) - (1 : Int32))), .val (.int (f0_v14 p1)), .unset, .unset, .unset, .unset, .unset, .unset, .unset, .unset, .unset, .unset, .unset, .unset, .unset, .unset, .unset, .unset, .unset, .unset, .unset, .unset, .unset, .unset, .unset, .unset, .unset, .unset, .unset] [(.int (((p1.toUInt32 >>> ((4 : Int32) &&& 31).toUInt32).toInt32) &&& (3 : Int32)))])) _
    refine XS.iconst X0.here hx rfl (hb hby at_21) ?_
    refine XS.isub X0.here hx rfl (hb hby at_22) rfl ?_
    refine XS.istore X0.here hx rfl (hb hby at_23) rfl (l' := #[.val (.int p1), .val (.int p2), .val (.int p3), .val (.int p4), .val (.int p5), .val (.int ((p1 &&& (3 : Int32)) - (1 : Int32))), .val (.int (f0_v14 p1)), .val (.int (f0_v23 p1)), .unset, .unset, .unset, .unset, .unset, .unset, .unset, .unset, .unset, .unset, .unset, .unset, .unset, .unset, .unset, .unset, .unset, .unset, .unset, .unset, .unset, .unset, .unset, .unset, .unset, .unset]) rfl ?_
    refine XS.iconst X0.here hx rfl (hb hby at_25) ?_
    show Steps p.tables e below (s₁.setTop (mkF m 26 #[.val (.int p1), .val (.int p2), .val (.int p3), .val (.int p4), .val (.int p5), .val (.int ((p1 &&& (3 : Int32)) - (1 : Int32))), .val (.int (f0_v14 p1)), .val (.int (f0_v23 p1)), .unset, .unset, .unset, .unset, .unset, .unset, .unset, .unset, .unset, .unset, .unset, .unset, .unset, .unset, .unset, .unset, .unset, .unset, .unset, .unset, .unset, .unset, .unset, .unset, .unset, .unset] [(.int (3 : Int32))])) _
    refine st6 _ ?_
    show Steps p.tables e below (T6.setTop (mkF m 28 #[.val (.int p1), .val (.int p2), .val (.int p3), .val (.int p4), .val (.int p5), .val (.int ((p1 &&& (3 : Int32)) - (1 : Int32))), .val (.int (f0_v14 p1)), .val (.int (f0_v23 p1)), .unset, .unset, .unset, .unset, .unset, .unset, .unset, .unset, .unset, .unset, .unset, .unset, .unset, .unset, .unset, .unset, .unset, .unset, .unset, .unset, .unset, .unset, .unset, .unset, .unset, .unset] [(.ref b6)])) _
    refine XS.dup X6.here hx rfl (hb hby at_28) rfl rfl ?_
    refine XS.iconst X6.here hx rfl (hb hby at_29) ?_
    refine XS.iload X6.here hx rfl (hb hby at_30) rfl ?_
    show Steps p.tables e below (T6.setTop (mkF m 32 #[.val (.int p1), .val (.int p2), .val (.int p3), .val (.int p4), .val (.int p5), .val (.int ((p1 &&& (3 : Int32)) - (1 : Int32))), .val (.int (f0_v14 p1)), .val (.int (f0_v23 p1)), .unset, .unset, .unset, .unset, .unset, .unset, .unset, .unset, .unset, .unset, .unset, .unset, .unset, .unset, .unset, .unset, .unset, .unset, .unset, .unset, .unset, .unset, .unset, .unset, .unset, .unset] [(.int ((p1 &&& (3 : Int32)) - (1 : Int32))), (.int (0 : Int32)), (.ref b6), (.ref b6)])) _
    refine st9 _ ?_
    show Steps p.tables e below (T9.setTop (mkF m 33 #[.val (.int p1), .val (.int p2), .val (.int p3), .val (.int p4), .val (.int p5), .val (.int ((p1 &&& (3 : Int32)) - (1 : Int32))), .val (.int (f0_v14 p1)), .val (.int (f0_v23 p1)), .unset, .unset, .unset, .unset, .unset, .unset, .unset, .unset, .unset, .unset, .unset, .unset, .unset, .unset, .unset, .unset, .unset, .unset, .unset, .unset, .unset, .unset, .unset, .unset, .unset, .unset] [(.ref b6)])) _
    refine XS.dup X9.here hx rfl (hb hby at_33) rfl rfl ?_
    refine XS.iconst X9.here hx rfl (hb hby at_34) ?_
    refine XS.iload X9.here hx rfl (hb hby at_35) rfl ?_
    show Steps p.tables e below (T9.setTop (mkF m 37 #[.val (.int p1), .val (.int p2), .val (.int p3), .val (.int p4), .val (.int p5), .val (.int ((p1 &&& (3 : Int32)) - (1 : Int32))), .val (.int (f0_v14 p1)), .val (.int (f0_v23 p1)), .unset, .unset, .unset, .unset, .unset, .unset, .unset, .unset, .unset, .unset, .unset, .unset, .unset, .unset, .unset, .unset, .unset, .unset, .unset, .unset, .unset, .unset, .unset, .unset, .unset, .unset] [(.int (f0_v14 p1)), (.int (1 : Int32)), (.ref b6), (.ref b6)])) _
    refine st12 _ ?_
    show Steps p.tables e below (T12.setTop (mkF m 38 #[.val (.int p1), .val (.int p2), .val (.int p3), .val (.int p4), .val (.int p5), .val (.int ((p1 &&& (3 : Int32)) - (1 : Int32))), .val (.int (f0_v14 p1)), .val (.int (f0_v23 p1)), .unset, .unset, .unset, .unset, .unset, .unset, .unset, .unset, .unset, .unset, .unset, .unset, .unset, .unset, .unset, .unset, .unset, .unset, .unset, .unset, .unset, .unset, .unset, .unset, .unset, .unset] [(.ref b6)])) _
    refine XS.dup X12.here hx rfl (hb hby at_38) rfl rfl ?_
    refine XS.iconst X12.here hx rfl (hb hby at_39) ?_
    refine XS.iload X12.here hx rfl (hb hby at_40) rfl ?_
    show Steps p.tables e below (T12.setTop (mkF m 42 #[.val (.int p1), .val (.int p2), .val (.int p3), .val (.int p4), .val (.int p5), .val (.int ((p1 &&& (3 : Int32)) - (1 : Int32))), .val (.int (f0_v14 p1)), .val (.int (f0_v23 p1)), .unset, .unset, .unset, .unset, .unset, .unset, .unset, .unset, .unset, .unset, .unset, .unset, .unset, .unset, .unset, .unset, .unset, .unset, .unset, .unset, .unset, .unset, .unset, .unset, .unset, .unset] [(.int (f0_v23 p1)), (.int (2 : Int32)), (.ref b6), (.ref b6)])) _
    refine st15 _ ?_
    show Steps p.tables e below (T15.setTop (mkF m 43 #[.val (.int p1), .val (.int p2), .val (.int p3), .val (.int p4), .val (.int p5), .val (.int ((p1 &&& (3 : Int32)) - (1 : Int32))), .val (.int (f0_v14 p1)), .val (.int (f0_v23 p1)), .unset, .unset, .unset, .unset, .unset, .unset, .unset, .unset, .unset, .unset, .unset, .unset, .unset, .unset, .unset, .unset, .unset, .unset, .unset, .unset, .unset, .unset, .unset, .unset, .unset, .unset] [(.ref b6)])) _
    refine XS.astore X15.here hx rfl (hb hby at_43) rfl rfl (l' := #[.val (.int p1), .val (.int p2), .val (.int p3), .val (.int p4), .val (.int p5), .val (.int ((p1 &&& (3 : Int32)) - (1 : Int32))), .val (.int (f0_v14 p1)), .val (.int (f0_v23 p1)), .val (.ref b6), .unset, .unset, .unset, .unset, .unset, .unset, .unset, .unset, .unset, .unset, .unset, .unset, .unset, .unset, .unset, .unset, .unset, .unset, .unset, .unset, .unset, .unset, .unset, .unset, .unset]) rfl ?_
    refine XS.iconst X15.here hx rfl (hb hby at_45) ?_
    show Steps p.tables e below (T15.setTop (mkF m 46 #[.val (.int p1), .val (.int p2), .val (.int p3), .val (.int p4), .val (.int p5), .val (.int ((p1 &&& (3 : Int32)) - (1 : Int32))), .val (.int (f0_v14 p1)), .val (.int (f0_v23 p1)), .val (.ref b6), .unset, .unset, .unset, .unset, .unset, .unset, .unset, .unset, .unset, .unset, .unset, .unset, .unset, .unset, .unset, .unset, .unset, .unset, .unset, .unset, .unset, .unset, .unset, .unset, .unset] [(.int (3 : Int32))])) _
    refine st18 _ ?_
    show Steps p.tables e below (T18.setTop (mkF m 48 #[.val (.int p1), .val (.int p2), .val (.int p3), .val (.int p4), .val (.int p5), .val (.int ((p1 &&& (3 : Int32)) - (1 : Int32))), .val (.int (f0_v14 p1)), .val (.int (f0_v23 p1)), .val (.ref b6), .unset, .unset, .unset, .unset, .unset, .unset, .unset, .unset, .unset, .unset, .unset, .unset, .unset, .unset, .unset, .unset, .unset, .unset, .unset, .unset, .unset, .unset, .unset, .unset, .unset] [(.ref b18)])) _
    refine XS.dup X18.here hx rfl (hb hby at_48) rfl rfl ?_
    refine XS.iconst X18.here hx rfl (hb hby at_49) ?_
    refine XS.iload X18.here hx rfl (hb hby at_50) rfl ?_
    refine XS.iload X18.here hx rfl (hb hby at_52) rfl ?_
    show Steps p.tables e below (T18.setTop (mkF m 54 #[.val (.int p1), .val (.int p2), .val (.int p3), .val (.int p4), .val (.int p5), .val (.int ((p1 &&& (3 : Int32)) - (1 : Int32))), .val (.int (f0_v14 p1)), .val (.int (f0_v23 p1)), .val (.ref b6), .unset, .unset, .unset, .unset, .unset, .unset, .unset, .unset, .unset, .unset, .unset, .unset, .unset, .unset, .unset, .unset, .unset, .unset, .unset, .unset, .unset, .unset, .unset, .unset, .unset] [(.int (f0_v14 p1)), (.int ((p1 &&& (3 : Int32)) - (1 : Int32))), (.int (0 : Int32)), (.ref b18), (.ref b18)])) _
    refine XS.iload X18.here hx rfl (hb hby at_54) rfl ?_
    refine XS.iconst X18.here hx rfl (hb hby at_56) ?_
    show Steps p.tables e below (T18.setTop (mkF m 57 #[.val (.int p1), .val (.int p2), .val (.int p3), .val (.int p4), .val (.int p5), .val (.int ((p1 &&& (3 : Int32)) - (1 : Int32))), .val (.int (f0_v14 p1)), .val (.int (f0_v23 p1)), .val (.ref b6), .unset, .unset, .unset, .unset, .unset, .unset, .unset, .unset, .unset, .unset, .unset, .unset, .unset, .unset, .unset, .unset, .unset, .unset, .unset, .unset, .unset, .unset, .unset, .unset, .unset] [(.int (0 : Int32)), (.int (f0_v23 p1)), (.int (f0_v14 p1)), (.int ((p1 &&& (3 : Int32)) - (1 : Int32))), (.int (0 : Int32)), (.ref b18), (.ref b18)])) _
    refine st22 _ ?_
    show Steps p.tables e below (T22.setTop (mkF m 60 #[.val (.int p1), .val (.int p2), .val (.int p3), .val (.int p4), .val (.int p5), .val (.int ((p1 &&& (3 : Int32)) - (1 : Int32))), .val (.int (f0_v14 p1)), .val (.int (f0_v23 p1)), .val (.ref b6), .unset, .unset, .unset, .unset, .unset, .unset, .unset, .unset, .unset, .unset, .unset, .unset, .unset, .unset, .unset, .unset, .unset, .unset, .unset, .unset, .unset, .unset, .unset, .unset, .unset] [(.int (f1 ((p1 &&& (3 : Int32)) - (1 : Int32)) (f0_v14 p1) (f0_v23 p1) (0 : Int32))), (.int (0 : Int32)), (.ref b18), (.ref b18)])) _
    refine st23 _ ?_
    show Steps p.tables e below (T23.setTop (mkF m 61 #[.val (.int p1), .val (.int p2), .val (.int p3), .val (.int p4), .val (.int p5), .val (.int ((p1 &&& (3 : Int32)) - (1 : Int32))), .val (.int (f0_v14 p1)), .val (.int (f0_v23 p1)), .val (.ref b6), .unset, .unset, .unset, .unset, .unset, .unset, .unset, .unset, .unset, .unset, .unset, .unset, .unset, .unset, .unset, .unset, .unset, .unset, .unset, .unset, .unset, .unset, .unset, .unset, .unset] [(.ref b18)])) _
    refine XS.dup X23.here hx rfl (hb hby at_61) rfl rfl ?_
    refine XS.iconst X23.here hx rfl (hb hby at_62) ?_
    refine XS.iload X23.here hx rfl (hb hby at_63) rfl ?_
    refine XS.iload X23.here hx rfl (hb hby at_65) rfl ?_
    show Steps p.tables e below (T23.setTop (mkF m 67 #[.val (.int p1), .val (.int p2), .val (.int p3), .val (.int p4), .val (.int p5), .val (.int ((p1 &&& (3 : Int32)) - (1 : Int32))), .val (.int (f0_v14 p1)), .val (.int (f0_v23 p1)), .val (.ref b6), .unset, .unset, .unset, .unset, .unset, .unset, .unset, .unset, .unset, .unset, .unset, .unset, .unset, .unset, .unset, .unset, .unset, .unset, .unset, .unset, .unset, .unset, .unset, .unset, .unset] [(.int (f0_v14 p1)), (.int ((p1 &&& (3 : Int32)) - (1 : Int32))), (.int (1 : Int32)), (.ref b18), (.ref b18)])) _
    refine XS.iload X23.here hx rfl (hb hby at_67) rfl ?_
    refine XS.iconst X23.here hx rfl (hb hby at_69) ?_
    show Steps p.tables e below (T23.setTop (mkF m 70 #[.val (.int p1), .val (.int p2), .val (.int p3), .val (.int p4), .val (.int p5), .val (.int ((p1 &&& (3 : Int32)) - (1 : Int32))), .val (.int (f0_v14 p1)), .val (.int (f0_v23 p1)), .val (.ref b6), .unset, .unset, .unset, .unset, .unset, .unset, .unset, .unset, .unset, .unset, .unset, .unset, .unset, .unset, .unset, .unset, .unset, .unset, .unset, .unset, .unset, .unset, .unset, .unset, .unset] [(.int (1 : Int32)), (.int (f0_v23 p1)), (.int (f0_v14 p1)), (.int ((p1 &&& (3 : Int32)) - (1 : Int32))), (.int (1 : Int32)), (.ref b18), (.ref b18)])) _
    refine st27 _ ?_
    show Steps p.tables e below (T27.setTop (mkF m 73 #[.val (.int p1), .val (.int p2), .val (.int p3), .val (.int p4), .val (.int p5), .val (.int ((p1 &&& (3 : Int32)) - (1 : Int32))), .val (.int (f0_v14 p1)), .val (.int (f0_v23 p1)), .val (.ref b6), .unset, .unset, .unset, .unset, .unset, .unset, .unset, .unset, .unset, .unset, .unset, .unset, .unset, .unset, .unset, .unset, .unset, .unset, .unset, .unset, .unset, .unset, .unset, .unset, .unset] [(.int (f1 ((p1 &&& (3 : Int32)) - (1 : Int32)) (f0_v14 p1) (f0_v23 p1) (1 : Int32))), (.int (1 : Int32)), (.ref b18), (.ref b18)])) _
    refine st28 _ ?_
    show Steps p.tables e below (T28.setTop (mkF m 74 #[.val (.int p1), .val (.int p2), .val (.int p3), .val (.int p4), .val (.int p5), .val (.int ((p1 &&& (3 : Int32)) - (1 : Int32))), .val (.int (f0_v14 p1)), .val (.int (f0_v23 p1)), .val (.ref b6), .unset, .unset, .unset, .unset, .unset, .unset, .unset, .unset, .unset, .unset, .unset, .unset, .unset, .unset, .unset, .unset, .unset, .unset, .unset, .unset, .unset, .unset, .unset, .unset, .unset] [(.ref b18)])) _
    refine XS.dup X28.here hx rfl (hb hby at_74) rfl rfl ?_
    refine XS.iconst X28.here hx rfl (hb hby at_75) ?_
    refine XS.iload X28.here hx rfl (hb hby at_76) rfl ?_
    refine XS.iload X28.here hx rfl (hb hby at_78) rfl ?_
    show Steps p.tables e below (T28.setTop (mkF m 80 #[.val (.int p1), .val (.int p2), .val (.int p3), .val (.int p4), .val (.int p5), .val (.int ((p1 &&& (3 : Int32)) - (1 : Int32))), .val (.int (f0_v14 p1)), .val (.int (f0_v23 p1)), .val (.ref b6), .unset, .unset, .unset, .unset, .unset, .unset, .unset, .unset, .unset, .unset, .unset, .unset, .unset, .unset, .unset, .unset, .unset, .unset, .unset, .unset, .unset, .unset, .unset, .unset, .unset] [(.int (f0_v14 p1)), (.int ((p1 &&& (3 : Int32)) - (1 : Int32))), (.int (2 : Int32)), (.ref b18), (.ref b18)])) _
    refine XS.iload X28.here hx rfl (hb hby at_80) rfl ?_
    refine XS.iconst X28.here hx rfl (hb hby at_82) ?_
    show Steps p.tables e below (T28.setTop (mkF m 83 #[.val (.int p1), .val (.int p2), .val (.int p3), .val (.int p4), .val (.int p5), .val (.int ((p1 &&& (3 : Int32)) - (1 : Int32))), .val (.int (f0_v14 p1)), .val (.int (f0_v23 p1)), .val (.ref b6), .unset, .unset, .unset, .unset, .unset, .unset, .unset, .unset, .unset, .unset, .unset, .unset, .unset, .unset, .unset, .unset, .unset, .unset, .unset, .unset, .unset, .unset, .unset, .unset, .unset] [(.int (2 : Int32)), (.int (f0_v23 p1)), (.int (f0_v14 p1)), (.int ((p1 &&& (3 : Int32)) - (1 : Int32))), (.int (2 : Int32)), (.ref b18), (.ref b18)])) _
    refine st32 _ ?_
    show Steps p.tables e below (T32.setTop (mkF m 86 #[.val (.int p1), .val (.int p2), .val (.int p3), .val (.int p4), .val (.int p5), .val (.int ((p1 &&& (3 : Int32)) - (1 : Int32))), .val (.int (f0_v14 p1)), .val (.int (f0_v23 p1)), .val (.ref b6), .unset, .unset, .unset, .unset, .unset, .unset, .unset, .unset, .unset, .unset, .unset, .unset, .unset, .unset, .unset, .unset, .unset, .unset, .unset, .unset, .unset, .unset, .unset, .unset, .unset] [(.int (f1 ((p1 &&& (3 : Int32)) - (1 : Int32)) (f0_v14 p1) (f0_v23 p1) (2 : Int32))), (.int (2 : Int32)), (.ref b18), (.ref b18)])) _
    refine st33 _ ?_
    show Steps p.tables e below (T33.setTop (mkF m 87 #[.val (.int p1), .val (.int p2), .val (.int p3), .val (.int p4), .val (.int p5), .val (.int ((p1 &&& (3 : Int32)) - (1 : Int32))), .val (.int (f0_v14 p1)), .val (.int (f0_v23 p1)), .val (.ref b6), .unset, .unset, .unset, .unset, .unset, .unset, .unset, .unset, .unset, .unset, .unset, .unset, .unset, .unset, .unset, .unset, .unset, .unset, .unset, .unset, .unset, .unset, .unset, .unset, .unset] [(.ref b18)])) _
    refine XS.astore X33.here hx rfl (hb hby at_87) rfl rfl (l' := #[.val (.int p1), .val (.int p2), .val (.int p3), .val (.int p4), .val (.int p5), .val (.int ((p1 &&& (3 : Int32)) - (1 : Int32))), .val (.int (f0_v14 p1)), .val (.int (f0_v23 p1)), .val (.ref b6), .val (.ref b18), .unset, .unset, .unset, .unset, .unset, .unset, .unset, .unset, .unset, .unset, .unset, .unset, .unset, .unset, .unset, .unset, .unset, .unset, .unset, .unset, .unset, .unset, .unset, .unset]) rfl ?_
    refine XS.iconst X33.here hx rfl (hb hby at_89) ?_
    show Steps p.tables e below (T33.setTop (mkF m 90 #[.val (.int p1), .val (.int p2), .val (.int p3), .val (.int p4), .val (.int p5), .val (.int ((p1 &&& (3 : Int32)) - (1 : Int32))), .val (.int (f0_v14 p1)), .val (.int (f0_v23 p1)), .val (.ref b6), .val (.ref b18), .unset, .unset, .unset, .unset, .unset, .unset, .unset, .unset, .unset, .unset, .unset, .unset, .unset, .unset, .unset, .unset, .unset, .unset, .unset, .unset, .unset, .unset, .unset, .unset] [(.int (3 : Int32))])) _
    refine st37 _ ?_
    show Steps p.tables e below (T37.setTop (mkF m 92 #[.val (.int p1), .val (.int p2), .val (.int p3), .val (.int p4), .val (.int p5), .val (.int ((p1 &&& (3 : Int32)) - (1 : Int32))), .val (.int (f0_v14 p1)), .val (.int (f0_v23 p1)), .val (.ref b6), .val (.ref b18), .unset, .unset, .unset, .unset, .unset, .unset, .unset, .unset, .unset, .unset, .unset, .unset, .unset, .unset, .unset, .unset, .unset, .unset, .unset, .unset, .unset, .unset, .unset, .unset] [(.ref b37)])) _
    refine XS.dup X37.here hx rfl (hb hby at_92) rfl rfl ?_
    refine XS.iconst X37.here hx rfl (hb hby at_93) ?_
    refine XS.iloadN X37.here hx rfl (hb hby at_94) rfl ?_
    refine XS.bipush X37.here hx rfl (hb hby at_95) ?_
    show Steps p.tables e below (T37.setTop (mkF m 97 #[.val (.int p1), .val (.int p2), .val (.int p3), .val (.int p4), .val (.int p5), .val (.int ((p1 &&& (3 : Int32)) - (1 : Int32))), .val (.int (f0_v14 p1)), .val (.int (f0_v23 p1)), .val (.ref b6), .val (.ref b18), .unset, .unset, .unset, .unset, .unset, .unset, .unset, .unset, .unset, .unset, .unset, .unset, .unset, .unset, .unset, .unset, .unset, .unset, .unset, .unset, .unset, .unset, .unset, .unset] [(.int (6 : Int32)), (.int p1), (.int (0 : Int32)), (.ref b37), (.ref b37)])) _
    refine XS.iushr X37.here hx rfl (hb hby at_97) rfl ?_
    refine XS.iconst X37.here hx rfl (hb hby at_98) ?_
    refine XS.iand X37.here hx rfl (hb hby at_99) rfl ?_
    exact k
  have pre2 : ∀ t, Steps p.tables e below (T37.setTop (mkF m 108 #[.val (.int p1), .val (.int p2), .val (.int p3), .val (.int p4), .val (.int p5), .val (.int ((p1 &&& (3 : Int32)) - (1 : Int32))), .val (.int (f0_v14 p1)), .val (.int (f0_v23 p1)), .val (.ref b6), .val (.ref b18), .unset, .unset, .unset, .unset, .unset, .unset, .unset, .unset, .unset, .unset, .unset, .unset, .unset, .unset, .unset, .unset, .unset, .unset, .unset, .unset, .unset, .unset, .unset, .unset] [(.int (f0_s0_108 p1)), (.int (0 : Int32)), (.ref b37), (.ref b37)])) t → Steps p.tables e below (s₁.setTop (entryFrame m #[(.int p1), (.int p2), (.int p3), (.int p4), (.int p5)] maxLocals)) t := by
    intro t k
    by_cases hc100 : (((p1.toUInt32 >>> ((6 : Int32) &&& 31).toUInt32).toInt32) &&& (1 : Int32)) = (0 : Int32)
    · have eq3 := (show (f0_s0_108 p1) = (0 : Int32) from by unfold f0_s0_108; simp only [if_pos hc100])
      try rw [eq3] at k
      refine pre1 t ?_
      refine XS.ifYes X37.here hx rfl (pc0 := 100) (pc' := 107) rfl (hb hby at_100) rfl ((if0 _ _).trans (teq hc100).1) (by decide) (by decide) ?_
      show Steps p.tables e below (T37.setTop (mkF m 107 #[.val (.int p1), .val (.int p2), .val (.int p3), .val (.int p4), .val (.int p5), .val (.int ((p1 &&& (3 : Int32)) - (1 : Int32))), .val (.int (f0_v14 p1)), .val (.int (f0_v23 p1)), .val (.ref b6), .val (.ref b18), .unset, .unset, .unset, .unset, .unset, .unset, .unset, .unset, .unset, .unset, .unset, .unset, .unset, .unset, .unset, .unset, .unset, .unset, .unset, .unset, .unset, .unset, .unset, .unset] [(.int (0 : Int32)), (.ref b37), (.ref b37)])) _
      refine XS.iconst X37.here hx rfl (hb hby at_107) ?_
      exact k
    · have eq4 := (show (f0_s0_108 p1) = (1 : Int32) from by unfold f0_s0_108; simp only [if_neg hc100])
      try rw [eq4] at k
      refine pre1 t ?_
      refine XS.ifNo X37.here hx rfl (hb hby at_100) rfl ((if0 _ _).trans (feq hc100).1) ?_
      refine XS.iconst X37.here hx rfl (hb hby at_103) ?_
      refine XS.goto X37.here hx rfl (pc0 := 104) (pc' := 108) rfl (hb hby at_104) (by decide) (by decide) ?_
      exact k
  obtain ⟨T42, h42, X42, e42, W42, V42, st42⟩ := sZ X37 hx hZ e37 c41 (j := (0 : Int32)) ⟨by decide, by first | decide | assumption⟩ (g := (mkF m 108 #[.val (.int p1), .val (.int p2), .val (.int p3), .val (.int p4), .val (.int p5), .val (.int ((p1 &&& (3 : Int32)) - (1 : Int32))), .val (.int (f0_v14 p1)), .val (.int (f0_v23 p1)), .val (.ref b6), .val (.ref b18), .unset, .unset, .unset, .unset, .unset, .unset, .unset, .unset, .unset, .unset, .unset, .unset, .unset, .unset, .unset, .unset, .unset, .unset, .unset, .unset, .unset, .unset, .unset, .unset] [(.int (f0_s0_108 p1)), (.int (0 : Int32)), (.ref b37), (.ref b37)])) rfl rfl (hb hby at_108)
  have N42 := Fr.snoc X42 N33 g_b37
  have c43 : n0 ≤ h42.size := Nat.le_trans c38 (Keep.of_wr W42).1
  have c44 : IAr Z h42 b6 .int (3 : Int32) (f0_v42 p1) := c39.other W42 ne_b6_b37
  have c45 : IAr Z h42 b18 .int (3 : Int32) (f0_v86 p1) := c40.other W42 ne_b18_b37
  have c46 : Exa Z h42 b37 "[Z" := EX37.wr W42
  have c47 : IAr Z h42 b37 .boolean (3 : Int32) (f0_v108 p1) := V42
  have pre5 : ∀ t, Steps p.tables e below (T42.setTop (mkF m 117 #[.val (.int p1), .val (.int p2), .val (.int p3), .val (.int p4), .val (.int p5), .val (.int ((p1 &&& (3 : Int32)) - (1 : Int32))), .val (.int (f0_v14 p1)), .val (.int (f0_v23 p1)), .val (.ref b6), .val (.ref b18), .unset, .unset, .unset, .unset, .unset, .unset, .unset, .unset, .unset, .unset, .unset, .unset, .unset, .unset, .unset, .unset, .unset, .unset, .unset, .unset, .unset, .unset, .unset, .unset] [(.int (((p1.toUInt32 >>> ((7 : Int32) &&& 31).toUInt32).toInt32) &&& (1 : Int32))), (.int (1 : Int32)), (.ref b37), (.ref b37)])) t → Steps p.tables e below (s₁.setTop (entryFrame m #[(.int p1), (.int p2), (.int p3), (.int p4), (.int p5)] maxLocals)) t := by
    intro t k
    refine pre2 t ?_
    show Steps p.tables e below (T37.setTop (mkF m 108 #[.val (.int p1), .val (.int p2), .val (.int p3), .val (.int p4), .val (.int p5), .val (.int ((p1 &&& (3 : Int32)) - (1 : Int32))), .val (.int (f0_v14 p1)), .val (.int (f0_v23 p1)), .val (.ref b6), .val (.ref b18), .unset, .unset, .unset, .unset, .unset, .unset, .unset, .unset, .unset, .unset, .unset, .unset, .unset, .unset, .unset, .unset, .unset, .unset, .unset, .unset, .unset, .unset, .unset, .unset] [(.int (f0_s0_108 p1)), (.int (0 : Int32)), (.ref b37), (.ref b37)])) _
    refine st42 _ ?_
    show Steps p.tables e below (T42.setTop (mkF m 109 #[.val (.int p1), .val (.int p2), .val (.int p3), .val (.int p4), .val (.int p5), .val (.int ((p1 &&& (3 : Int32)) - (1 : Int32))), .val (.int (f0_v14 p1)), .val (.int (f0_v23 p1)), .val (.ref b6), .val (.ref b18), .unset, .unset, .unset, .unset, .unset, .unset, .unset, .unset, .unset, .unset, .unset, .unset, .unset, .unset, .unset, .unset, .unset, .unset, .unset, .unset, .unset, .unset, .unset, .unset] [(.ref b37)])) _
    refine XS.dup X42.here hx rfl (hb hby at_109) rfl rfl ?_
    refine XS.iconst X42.here hx rfl (hb hby at_110) ?_
    refine XS.iloadN X42.here hx rfl (hb hby at_111) rfl ?_
    refine XS.bipush X42.here hx rfl (hb hby at_112) ?_
    show Steps p.tables e below (T42.setTop (mkF m 114 #[.val (.int p1), .val (.int p2), .val (.int p3), .val (.int p4), .val (.int p5), .val (.int ((p1 &&& (3 : Int32)) - (1 : Int32))), .val (.int (f0_v14 p1)), .val (.int (f0_v23 p1)), .val (.ref b6), .val (.ref b18), .unset, .unset, .unset, .unset, .unset, .unset, .unset, .unset, .unset, .unset, .unset, .unset, .unset, .unset, .unset, .unset, .unset, .unset, .unset, .unset, .unset, .unset, .unset, .unset] [(.int (7 : Int32)), (.int p1), (.int (1 : Int32)), (.ref b37), (.ref b37)])) _
    refine XS.iushr X42.here hx rfl (hb hby at_114) rfl ?_
    refine XS.iconst X42.here hx rfl (hb hby at_115) ?_
    refine XS.iand X42.here hx rfl (hb hby at_116) rfl ?_
    exact k
  have pre6 : ∀ t, Steps p.tables e below (T42.setTop (mkF m 125 #[.val (.int p1), .val (.int p2), .val (.int p3), .val (.int p4), .val (.int p5), .val (.int ((p1 &&& (3 : Int32)) - (1 : Int32))), .val (.int (f0_v14 p1)), .val (.int (f0_v23 p1)), .val (.ref b6), .val (.ref b18), .unset, .unset, .unset, .unset, .unset, .unset, .unset, .unset, .unset, .unset, .unset, .unset, .unset, .unset, .unset, .unset, .unset, .unset, .unset, .unset, .unset, .unset, .unset, .unset] [(.int (f0_s0_125 p1)), (.int (1 : Int32)), (.ref b37), (.ref b37)])) t → Steps p.tables e below (s₁.setTop (entryFrame m #[(.int p1), (.int p2), (.int p3), (.int p4), (.int p5)] maxLocals)) t := by
    intro t k
    by_cases hc117 : (((p1.toUInt32 >>> ((7 : Int32) &&& 31).toUInt32).toInt32) &&& (1 : Int32)) = (0 : Int32)
    · have eq7 := (show (f0_s0_125 p1) = (0 : Int32) from by unfold f0_s0_125; simp only [if_pos hc117])
      try rw [eq7] at k
      refine pre5 t ?_
      refine XS.ifYes X42.here hx rfl (pc0 := 117) (pc' := 124) rfl (hb hby at_117) rfl ((if0 _ _).trans (teq hc117).1) (by decide) (by decide) ?_
      show Steps p.tables e below (T42.setTop (mkF m 124 #[.val (.int p1), .val (.int p2), .val (.int p3), .val (.int p4), .val (.int p5), .val (.int ((p1 &&& (3 : Int32)) - (1 : Int32))), .val (.int (f0_v14 p1)), .val (.int (f0_v23 p1)), .val (.ref b6), .val (.ref b18), .unset, .unset, .unset, .unset, .unset, .unset, .unset, .unset, .unset, .unset, .unset, .unset, .unset, .unset, .unset, .unset, .unset, .unset, .unset, .unset, .unset, .unset, .unset, .unset] [(.int (1 : Int32)), (.ref b37), (.ref b37)])) _
      refine XS.iconst X42.here hx rfl (hb hby at_124) ?_
      exact k
    · have eq8 := (show (f0_s0_125 p1) = (1 : Int32) from by unfold f0_s0_125; simp only [if_neg hc117])
      try rw [eq8] at k
      refine pre5 t ?_
      refine XS.ifNo X42.here hx rfl (hb hby at_117) rfl ((if0 _ _).trans (feq hc117).1) ?_
      refine XS.iconst X42.here hx rfl (hb hby at_120) ?_
      refine XS.goto X42.here hx rfl (pc0 := 121) (pc' := 125) rfl (hb hby at_121) (by decide) (by decide) ?_
      exact k
  obtain ⟨T48, h48, X48, e48, W48, V48, st48⟩ := sZ X42 hx hZ e42 c47 (j := (1 : Int32)) ⟨by decide, by first | decide | assumption⟩ (g := (mkF m 125 #[.val (.int p1), .val (.int p2), .val (.int p3), .val (.int p4), .val (.int p5), .val (.int ((p1 &&& (3 : Int32)) - (1 : Int32))), .val (.int (f0_v14 p1)), .val (.int (f0_v23 p1)), .val (.ref b6), .val (.ref b18), .unset, .unset, .unset, .unset, .unset, .unset, .unset, .unset, .unset, .unset, .unset, .unset, .unset, .unset, .unset, .unset, .unset, .unset, .unset, .unset, .unset, .unset, .unset, .unset] [(.int (f0_s0_125 p1)), (.int (1 : Int32)), (.ref b37), (.ref b37)])) rfl rfl (hb hby at_125)
  have N48 := Fr.snoc X48 N42 g_b37
  have c49 : n0 ≤ h48.size := Nat.le_trans c43 (Keep.of_wr W48).1
  have c50 : IAr Z h48 b6 .int (3 : Int32) (f0_v42 p1) := c44.other W48 ne_b6_b37
  have c51 : IAr Z h48 b18 .int (3 : Int32) (f0_v86 p1) := c45.other W48 ne_b18_b37
  have c52 : Exa Z h48 b37 "[Z" := c46.wr W48
  have c53 : IAr Z h48 b37 .boolean (3 : Int32) (f0_v125 p1) := V48
  have pre9 : ∀ t, Steps p.tables e below (T48.setTop (mkF m 134 #[.val (.int p1), .val (.int p2), .val (.int p3), .val (.int p4), .val (.int p5), .val (.int ((p1 &&& (3 : Int32)) - (1 : Int32))), .val (.int (f0_v14 p1)), .val (.int (f0_v23 p1)), .val (.ref b6), .val (.ref b18), .unset, .unset, .unset, .unset, .unset, .unset, .unset, .unset, .unset, .unset, .unset, .unset, .unset, .unset, .unset, .unset, .unset, .unset, .unset, .unset, .unset, .unset, .unset, .unset] [(.int (((p1.toUInt32 >>> ((8 : Int32) &&& 31).toUInt32).toInt32) &&& (1 : Int32))), (.int (2 : Int32)), (.ref b37), (.ref b37)])) t → Steps p.tables e below (s₁.setTop (entryFrame m #[(.int p1), (.int p2), (.int p3), (.int p4), (.int p5)] maxLocals)) t := by
    intro t k
    refine pre6 t ?_
    show Steps p.tables e below (T42.setTop (mkF m 125 #[.val (.int p1), .val (.int p2), .val (.int p3), .val (.int p4), .val (.int p5), .val (.int ((p1 &&& (3 : Int32)) - (1 : Int32))), .val (.int (f0_v14 p1)), .val (.int (f0_v23 p1)), .val (.ref b6), .val (.ref b18), .unset, .unset, .unset, .unset, .unset, .unset, .unset, .unset, .unset, .unset, .unset, .unset, .unset, .unset, .unset, .unset, .unset, .unset, .unset, .unset, .unset, .unset, .unset, .unset] [(.int (f0_s0_125 p1)), (.int (1 : Int32)), (.ref b37), (.ref b37)])) _
    refine st48 _ ?_
    show Steps p.tables e below (T48.setTop (mkF m 126 #[.val (.int p1), .val (.int p2), .val (.int p3), .val (.int p4), .val (.int p5), .val (.int ((p1 &&& (3 : Int32)) - (1 : Int32))), .val (.int (f0_v14 p1)), .val (.int (f0_v23 p1)), .val (.ref b6), .val (.ref b18), .unset, .unset, .unset, .unset, .unset, .unset, .unset, .unset, .unset, .unset, .unset, .unset, .unset, .unset, .unset, .unset, .unset, .unset, .unset, .unset, .unset, .unset, .unset, .unset] [(.ref b37)])) _
    refine XS.dup X48.here hx rfl (hb hby at_126) rfl rfl ?_
    refine XS.iconst X48.here hx rfl (hb hby at_127) ?_
    refine XS.iloadN X48.here hx rfl (hb hby at_128) rfl ?_
    refine XS.bipush X48.here hx rfl (hb hby at_129) ?_
    show Steps p.tables e below (T48.setTop (mkF m 131 #[.val (.int p1), .val (.int p2), .val (.int p3), .val (.int p4), .val (.int p5), .val (.int ((p1 &&& (3 : Int32)) - (1 : Int32))), .val (.int (f0_v14 p1)), .val (.int (f0_v23 p1)), .val (.ref b6), .val (.ref b18), .unset, .unset, .unset, .unset, .unset, .unset, .unset, .unset, .unset, .unset, .unset, .unset, .unset, .unset, .unset, .unset, .unset, .unset, .unset, .unset, .unset, .unset, .unset, .unset] [(.int (8 : Int32)), (.int p1), (.int (2 : Int32)), (.ref b37), (.ref b37)])) _
    refine XS.iushr X48.here hx rfl (hb hby at_131) rfl ?_
    refine XS.iconst X48.here hx rfl (hb hby at_132) ?_
    refine XS.iand X48.here hx rfl (hb hby at_133) rfl ?_
    exact k
  have pre10 : ∀ t, Steps p.tables e below (T48.setTop (mkF m 142 #[.val (.int p1), .val (.int p2), .val (.int p3), .val (.int p4), .val (.int p5), .val (.int ((p1 &&& (3 : Int32)) - (1 : Int32))), .val (.int (f0_v14 p1)), .val (.int (f0_v23 p1)), .val (.ref b6), .val (.ref b18), .unset, .unset, .unset, .unset, .unset, .unset, .unset, .unset, .unset, .unset, .unset, .unset, .unset, .unset, .unset, .unset, .unset, .unset, .unset, .unset, .unset, .unset, .unset, .unset] [(.int (f0_s0_142 p1)), (.int (2 : Int32)), (.ref b37), (.ref b37)])) t → Steps p.tables e below (s₁.setTop (entryFrame m #[(.int p1), (.int p2), (.int p3), (.int p4), (.int p5)] maxLocals)) t := by
    intro t k
    by_cases hc134 : (((p1.toUInt32 >>> ((8 : Int32) &&& 31).toUInt32).toInt32) &&& (1 : Int32)) = (0 : Int32)
    · have eq11 := (show (f0_s0_142 p1) = (0 : Int32) from by unfold f0_s0_142; simp only [if_pos hc134])
      try rw [eq11] at k
      refine pre9 t ?_
      refine XS.ifYes X48.here hx rfl (pc0 := 134) (pc' := 141) rfl (hb hby at_134) rfl ((if0 _ _).trans (teq hc134).1) (by decide) (by decide) ?_
      show Steps p.tables e below (T48.setTop (mkF m 141 #[.val (.int p1), .val (.int p2), .val (.int p3), .val (.int p4), .val (.int p5), .val (.int ((p1 &&& (3 : Int32)) - (1 : Int32))), .val (.int (f0_v14 p1)), .val (.int (f0_v23 p1)), .val (.ref b6), .val (.ref b18), .unset, .unset, .unset, .unset, .unset, .unset, .unset, .unset, .unset, .unset, .unset, .unset, .unset, .unset, .unset, .unset, .unset, .unset, .unset, .unset, .unset, .unset, .unset, .unset] [(.int (2 : Int32)), (.ref b37), (.ref b37)])) _
      refine XS.iconst X48.here hx rfl (hb hby at_141) ?_
      exact k
    · have eq12 := (show (f0_s0_142 p1) = (1 : Int32) from by unfold f0_s0_142; simp only [if_neg hc134])
      try rw [eq12] at k
      refine pre9 t ?_
      refine XS.ifNo X48.here hx rfl (hb hby at_134) rfl ((if0 _ _).trans (feq hc134).1) ?_
      refine XS.iconst X48.here hx rfl (hb hby at_137) ?_
      refine XS.goto X48.here hx rfl (pc0 := 138) (pc' := 142) rfl (hb hby at_138) (by decide) (by decide) ?_
      exact k
  obtain ⟨T54, h54, X54, e54, W54, V54, st54⟩ := sZ X48 hx hZ e48 c53 (j := (2 : Int32)) ⟨by decide, by first | decide | assumption⟩ (g := (mkF m 142 #[.val (.int p1), .val (.int p2), .val (.int p3), .val (.int p4), .val (.int p5), .val (.int ((p1 &&& (3 : Int32)) - (1 : Int32))), .val (.int (f0_v14 p1)), .val (.int (f0_v23 p1)), .val (.ref b6), .val (.ref b18), .unset, .unset, .unset, .unset, .unset, .unset, .unset, .unset, .unset, .unset, .unset, .unset, .unset, .unset, .unset, .unset, .unset, .unset, .unset, .unset, .unset, .unset, .unset, .unset] [(.int (f0_s0_142 p1)), (.int (2 : Int32)), (.ref b37), (.ref b37)])) rfl rfl (hb hby at_142)
  have N54 := Fr.snoc X54 N48 g_b37
  have c55 : n0 ≤ h54.size := Nat.le_trans c49 (Keep.of_wr W54).1
  have c56 : IAr Z h54 b6 .int (3 : Int32) (f0_v42 p1) := c50.other W54 ne_b6_b37
  have c57 : IAr Z h54 b18 .int (3 : Int32) (f0_v86 p1) := c51.other W54 ne_b18_b37
  have c58 : Exa Z h54 b37 "[Z" := c52.wr W54
  have c59 : IAr Z h54 b37 .boolean (3 : Int32) (f0_v142 p1) := V54
  have pre13 : ∀ t, Steps p.tables e below (T54.setTop (mkF m 266 #[.val (.int p1), .val (.int p2), .val (.int p3), .val (.int p4), .val (.int p5), .val (.int ((p1 &&& (3 : Int32)) - (1 : Int32))), .val (.int (f0_v14 p1)), .val (.int (f0_v23 p1)), .val (.ref b6), .val (.ref b18), .val (.ref b37), .val (.int (f0_v151 p2)), .val (.int (f0_v163 p2)), .val (.int (f0_v175 p2)), .val (.int (f0_v184 p3)), .val (.int (f0_v196 p3)), .val (.int (f0_v208 p3)), .val (.int (f0_v217 p4)), .val (.int (f0_v229 p4)), .val (.int (f0_v241 p4)), .val (.int (f0_v251 p5)), .val (.int (f0_v261 p5)), .unset, .unset, .unset, .unset, .unset, .unset, .unset, .unset, .unset, .unset, .unset, .unset] [(.int (1 : Int32)), (.int (f0_v261 p5))])) t → Steps p.tables e below (s₁.setTop (entryFrame m #[(.int p1), (.int p2), (.int p3), (.int p4), (.int p5)] maxLocals)) t := by
    intro t k
    refine pre10 t ?_
    show Steps p.tables e below (T48.setTop (mkF m 142 #[.val (.int p1), .val (.int p2), .val (.int p3), .val (.int p4), .val (.int p5), .val (.int ((p1 &&& (3 : Int32)) - (1 : Int32))), .val (.int (f0_v14 p1)), .val (.int (f0_v23 p1)), .val (.ref b6), .val (.ref b18), .unset, .unset, .unset, .unset, .unset, .unset, .unset, .unset, .unset, .unset, .unset, .unset, .unset, .unset, .unset, .unset, .unset, .unset, .unset, .unset, .unset, .unset, .unset, .unset] [(.int (f0_s0_142 p1)), (.int (2 : Int32)), (.ref b37), (.ref b37)])) _
    refine st54 _ ?_
    show Steps p.tables e below (T54.setTop (mkF m 143 #[.val (.int p1), .val (.int p2), .val (.int p3), .val (.int p4), .val (.int p5), .val (.int ((p1 &&& (3 : Int32)) - (1 : Int32))), .val (.int (f0_v14 p1)), .val (.int (f0_v23 p1)), .val (.ref b6), .val (.ref b18), .unset, .unset, .unset, .unset, .unset, .unset, .unset, .unset, .unset, .unset, .unset, .unset, .unset, .unset, .unset, .unset, .unset, .unset, .unset, .unset, .unset, .unset, .unset, .unset] [(.ref b37)])) _
    refine XS.astore X54.here hx rfl (hb hby at_143) rfl rfl (l' := #[.val (.int p1), .val (.int p2), .val (.int p3), .val (.int p4), .val (.int p5), .val (.int ((p1 &&& (3 : Int32)) - (1 : Int32))), .val (.int (f0_v14 p1)), .val (.int (f0_v23 p1)), .val (.ref b6), .val (.ref b18), .val (.ref b37), .unset, .unset, .unset, .unset, .unset, .unset, .unset, .unset, .unset, .unset, .unset, .unset, .unset, .unset, .unset, .unset, .unset, .unset, .unset, .unset, .unset, .unset, .unset]) rfl ?_
    refine XS.iloadN X54.here hx rfl (hb hby at_145) rfl ?_
    refine XS.sipush X54.here hx rfl (hb hby at_146) ?_
    refine XS.iand X54.here hx rfl (hb hby at_149) rfl ?_
    show Steps p.tables e below (T54.setTop (mkF m 150 #[.val (.int p1), .val (.int p2), .val (.int p3), .val (.int p4), .val (.int p5), .val (.int ((p1 &&& (3 : Int32)) - (1 : Int32))), .val (.int (f0_v14 p1)), .val (.int (f0_v23 p1)), .val (.ref b6), .val (.ref b18), .val (.ref b37), .unset, .unset, .unset, .unset, .unset, .unset, .unset, .unset, .unset, .unset, .unset, .unset, .unset, .unset, .unset, .unset, .unset, .unset, .unset, .unset, .unset, .unset, .unset] [(.int (p2 &&& (255 : Int32)))])) _
    refine XS.iconst X54.here hx rfl (hb hby at_150) ?_
    refine XS.irem X54.here hx rfl (hb hby at_151) rfl (by decide) ?_
    refine XS.istore X54.here hx rfl (hb hby at_152) rfl (l' := #[.val (.int p1), .val (.int p2), .val (.int p3), .val (.int p4), .val (.int p5), .val (.int ((p1 &&& (3 : Int32)) - (1 : Int32))), .val (.int (f0_v14 p1)), .val (.int (f0_v23 p1)), .val (.ref b6), .val (.ref b18), .val (.ref b37), .val (.int (f0_v151 p2)), .unset, .unset, .unset, .unset, .unset, .unset, .unset, .unset, .unset, .unset, .unset, .unset, .unset, .unset, .unset, .unset, .unset, .unset, .unset, .unset, .unset, .unset]) rfl ?_
    refine XS.iloadN X54.here hx rfl (hb hby at_154) rfl ?_
    show Steps p.tables e below (T54.setTop (mkF m 155 #[.val (.int p1), .val (.int p2), .val (.int p3), .val (.int p4), .val (.int p5), .val (.int ((p1 &&& (3 : Int32)) - (1 : Int32))), .val (.int (f0_v14 p1)), .val (.int (f0_v23 p1)), .val (.ref b6), .val (.ref b18), .val (.ref b37), .val (.int (f0_v151 p2)), .unset, .unset, .unset, .unset, .unset, .unset, .unset, .unset, .unset, .unset, .unset, .unset, .unset, .unset, .unset, .unset, .unset, .unset, .unset, .unset, .unset, .unset] [(.int p2)])) _
    refine XS.bipush X54.here hx rfl (hb hby at_155) ?_
    refine XS.iushr X54.here hx rfl (hb hby at_157) rfl ?_
    refine XS.sipush X54.here hx rfl (hb hby at_158) ?_
    refine XS.iand X54.here hx rfl (hb hby at_161) rfl ?_
    show Steps p.tables e below (T54.setTop (mkF m 162 #[.val (.int p1), .val (.int p2), .val (.int p3), .val (.int p4), .val (.int p5), .val (.int ((p1 &&& (3 : Int32)) - (1 : Int32))), .val (.int (f0_v14 p1)), .val (.int (f0_v23 p1)), .val (.ref b6), .val (.ref b18), .val (.ref b37), .val (.int (f0_v151 p2)), .unset, .unset, .unset, .unset, .unset, .unset, .unset, .unset, .unset, .unset, .unset, .unset, .unset, .unset, .unset, .unset, .unset, .unset, .unset, .unset, .unset, .unset] [(.int (((p2.toUInt32 >>> ((8 : Int32) &&& 31).toUInt32).toInt32) &&& (255 : Int32)))])) _
    refine XS.iconst X54.here hx rfl (hb hby at_162) ?_
    refine XS.irem X54.here hx rfl (hb hby at_163) rfl (by decide) ?_
    refine XS.istore X54.here hx rfl (hb hby at_164) rfl (l' := #[.val (.int p1), .val (.int p2), .val (.int p3), .val (.int p4), .val (.int p5), .val (.int ((p1 &&& (3 : Int32)) - (1 : Int32))), .val (.int (f0_v14 p1)), .val (.int (f0_v23 p1)), .val (.ref b6), .val (.ref b18), .val (.ref b37), .val (.int (f0_v151 p2)), .val (.int (f0_v163 p2)), .unset, .unset, .unset, .unset, .unset, .unset, .unset, .unset, .unset, .unset, .unset, .unset, .unset, .unset, .unset, .unset, .unset, .unset, .unset, .unset, .unset]) rfl ?_
    refine XS.iloadN X54.here hx rfl (hb hby at_166) rfl ?_
    show Steps p.tables e below (T54.setTop (mkF m 167 #[.val (.int p1), .val (.int p2), .val (.int p3), .val (.int p4), .val (.int p5), .val (.int ((p1 &&& (3 : Int32)) - (1 : Int32))), .val (.int (f0_v14 p1)), .val (.int (f0_v23 p1)), .val (.ref b6), .val (.ref b18), .val (.ref b37), .val (.int (f0_v151 p2)), .val (.int (f0_v163 p2)), .unset, .unset, .unset, .unset, .unset, .unset, .unset, .unset, .unset, .unset, .unset, .unset, .unset, .unset, .unset, .unset, .unset, .unset, .unset, .unset, .unset] [(.int p2)])) _
    refine XS.bipush X54.here hx rfl (hb hby at_167) ?_
    refine XS.iushr X54.here hx rfl (hb hby at_169) rfl ?_
    refine XS.sipush X54.here hx rfl (hb hby at_170) ?_
    refine XS.iand X54.here hx rfl (hb hby at_173) rfl ?_
    show Steps p.tables e below (T54.setTop (mkF m 174 #[.val (.int p1), .val (.int p2), .val (.int p3), .val (.int p4), .val (.int p5), .val (.int ((p1 &&& (3 : Int32)) - (1 : Int32))), .val (.int (f0_v14 p1)), .val (.int (f0_v23 p1)), .val (.ref b6), .val (.ref b18), .val (.ref b37), .val (.int (f0_v151 p2)), .val (.int (f0_v163 p2)), .unset, .unset, .unset, .unset, .unset, .unset, .unset, .unset, .unset, .unset, .unset, .unset, .unset, .unset, .unset, .unset, .unset, .unset, .unset, .unset, .unset] [(.int (((p2.toUInt32 >>> ((16 : Int32) &&& 31).toUInt32).toInt32) &&& (255 : Int32)))])) _
    refine XS.iconst X54.here hx rfl (hb hby at_174) ?_
    refine XS.irem X54.here hx rfl (hb hby at_175) rfl (by decide) ?_
    refine XS.istore X54.here hx rfl (hb hby at_176) rfl (l' := #[.val (.int p1), .val (.int p2), .val (.int p3), .val (.int p4), .val (.int p5), .val (.int ((p1 &&& (3 : Int32)) - (1 : Int32))), .val (.int (f0_v14 p1)), .val (.int (f0_v23 p1)), .val (.ref b6), .val (.ref b18), .val (.ref b37), .val (.int (f0_v151 p2)), .val (.int (f0_v163 p2)), .val (.int (f0_v175 p2)), .unset, .unset, .unset, .unset, .unset, .unset, .unset, .unset, .unset, .unset, .unset, .unset, .unset, .unset, .unset, .unset, .unset, .unset, .unset, .unset]) rfl ?_
    refine XS.iloadN X54.here hx rfl (hb hby at_178) rfl ?_
    show Steps p.tables e below (T54.setTop (mkF m 179 #[.val (.int p1), .val (.int p2), .val (.int p3), .val (.int p4), .val (.int p5), .val (.int ((p1 &&& (3 : Int32)) - (1 : Int32))), .val (.int (f0_v14 p1)), .val (.int (f0_v23 p1)), .val (.ref b6), .val (.ref b18), .val (.ref b37), .val (.int (f0_v151 p2)), .val (.int (f0_v163 p2)), .val (.int (f0_v175 p2)), .unset, .unset, .unset, .unset, .unset, .unset, .unset, .unset, .unset, .unset, .unset, .unset, .unset, .unset, .unset, .unset, .unset, .unset, .unset, .unset] [(.int p3)])) _
    refine XS.sipush X54.here hx rfl (hb hby at_179) ?_
    refine XS.iand X54.here hx rfl (hb hby at_182) rfl ?_
    refine XS.iconst X54.here hx rfl (hb hby at_183) ?_
    refine XS.irem X54.here hx rfl (hb hby at_184) rfl (by decide) ?_
    show Steps p.tables e below (T54.setTop (mkF m 185 #[.val (.int p1), .val (.int p2), .val (.int p3), .val (.int p4), .val (.int p5), .val (.int ((p1 &&& (3 : Int32)) - (1 : Int32))), .val (.int (f0_v14 p1)), .val (.int (f0_v23 p1)), .val (.ref b6), .val (.ref b18), .val (.ref b37), .val (.int (f0_v151 p2)), .val (.int (f0_v163 p2)), .val (.int (f0_v175 p2)), .unset, .unset, .unset, .unset, .unset, .unset, .unset, .unset, .unset, .unset, .unset, .unset, .unset, .unset, .unset, .unset, .unset, .unset, .unset, .unset] [(.int (f0_v184 p3))])) _
    refine XS.istore X54.here hx rfl (hb hby at_185) rfl (l' := #[.val (.int p1), .val (.int p2), .val (.int p3), .val (.int p4), .val (.int p5), .val (.int ((p1 &&& (3 : Int32)) - (1 : Int32))), .val (.int (f0_v14 p1)), .val (.int (f0_v23 p1)), .val (.ref b6), .val (.ref b18), .val (.ref b37), .val (.int (f0_v151 p2)), .val (.int (f0_v163 p2)), .val (.int (f0_v175 p2)), .val (.int (f0_v184 p3)), .unset, .unset, .unset, .unset, .unset, .unset, .unset, .unset, .unset, .unset, .unset, .unset, .unset, .unset, .unset, .unset, .unset, .unset, .unset]) rfl ?_
    refine XS.iloadN X54.here hx rfl (hb hby at_187) rfl ?_
    refine XS.bipush X54.here hx rfl (hb hby at_188) ?_
    refine XS.iushr X54.here hx rfl (hb hby at_190) rfl ?_
    show Steps p.tables e below (T54.setTop (mkF m 191 #[.val (.int p1), .val (.int p2), .val (.int p3), .val (.int p4), .val (.int p5), .val (.int ((p1 &&& (3 : Int32)) - (1 : Int32))), .val (.int (f0_v14 p1)), .val (.int (f0_v23 p1)), .val (.ref b6), .val (.ref b18), .val (.ref b37), .val (.int (f0_v151 p2)), .val (.int (f0_v163 p2)), .val (.int (f0_v175 p2)), .val (.int (f0_v184 p3)), .unset, .unset, .unset, .unset, .unset, .unset, .unset, .unset, .unset, .unset, .unset, .unset, .unset, .unset, .unset, .unset, .unset, .unset, .unset] [(.int ((p3.toUInt32 >>> ((8 : Int32) &&& 31).toUInt32).toInt32))])) _
    refine XS.sipush X54.here hx rfl (hb hby at_191) ?_
    refine XS.iand X54.here hx rfl (hb hby at_194) rfl ?_
    refine XS.iconst X54.here hx rfl (hb hby at_195) ?_
    refine XS.irem X54.here hx rfl (hb hby at_196) rfl (by decide) ?_
    show Steps p.tables e below (T54.setTop (mkF m 197 #[.val (.int p1), .val (.int p2), .val (.int p3), .val (.int p4), .val (.int p5), .val (.int ((p1 &&& (3 : Int32)) - (1 : Int32))), .val (.int (f0_v14 p1)), .val (.int (f0_v23 p1)), .val (.ref b6), .val (.ref b18), .val (.ref b37), .val (.int (f0_v151 p2)), .val (.int (f0_v163 p2)), .val (.int (f0_v175 p2)), .val (.int (f0_v184 p3)), .unset, .unset, .unset, .unset, .unset, .unset, .unset, .unset, .unset, .unset, .unset, .unset, .unset, .unset, .unset, .unset, .unset, .unset, .unset] [(.int (f0_v196 p3))])) _
    refine XS.istore X54.here hx rfl (hb hby at_197) rfl (l' := #[.val (.int p1), .val (.int p2), .val (.int p3), .val (.int p4), .val (.int p5), .val (.int ((p1 &&& (3 : Int32)) - (1 : Int32))), .val (.int (f0_v14 p1)), .val (.int (f0_v23 p1)), .val (.ref b6), .val (.ref b18), .val (.ref b37), .val (.int (f0_v151 p2)), .val (.int (f0_v163 p2)), .val (.int (f0_v175 p2)), .val (.int (f0_v184 p3)), .val (.int (f0_v196 p3)), .unset, .unset, .unset, .unset, .unset, .unset, .unset, .unset, .unset, .unset, .unset, .unset, .unset, .unset, .unset, .unset, .unset, .unset]) rfl ?_
    refine XS.iloadN X54.here hx rfl (hb hby at_199) rfl ?_
    refine XS.bipush X54.here hx rfl (hb hby at_200) ?_
    refine XS.iushr X54.here hx rfl (hb hby at_202) rfl ?_
    show Steps p.tables e below (T54.setTop (mkF m 203 #[.val (.int p1), .val (.int p2), .val (.int p3), .val (.int p4), .val (.int p5), .val (.int ((p1 &&& (3 : Int32)) - (1 : Int32))), .val (.int (f0_v14 p1)), .val (.int (f0_v23 p1)), .val (.ref b6), .val (.ref b18), .val (.ref b37), .val (.int (f0_v151 p2)), .val (.int (f0_v163 p2)), .val (.int (f0_v175 p2)), .val (.int (f0_v184 p3)), .val (.int (f0_v196 p3)), .unset, .unset, .unset, .unset, .unset, .unset, .unset, .unset, .unset, .unset, .unset, .unset, .unset, .unset, .unset, .unset, .unset, .unset] [(.int ((p3.toUInt32 >>> ((16 : Int32) &&& 31).toUInt32).toInt32))])) _
    refine XS.sipush X54.here hx rfl (hb hby at_203) ?_
    refine XS.iand X54.here hx rfl (hb hby at_206) rfl ?_
    refine XS.iconst X54.here hx rfl (hb hby at_207) ?_
    refine XS.irem X54.here hx rfl (hb hby at_208) rfl (by decide) ?_
    show Steps p.tables e below (T54.setTop (mkF m 209 #[.val (.int p1), .val (.int p2), .val (.int p3), .val (.int p4), .val (.int p5), .val (.int ((p1 &&& (3 : Int32)) - (1 : Int32))), .val (.int (f0_v14 p1)), .val (.int (f0_v23 p1)), .val (.ref b6), .val (.ref b18), .val (.ref b37), .val (.int (f0_v151 p2)), .val (.int (f0_v163 p2)), .val (.int (f0_v175 p2)), .val (.int (f0_v184 p3)), .val (.int (f0_v196 p3)), .unset, .unset, .unset, .unset, .unset, .unset, .unset, .unset, .unset, .unset, .unset, .unset, .unset, .unset, .unset, .unset, .unset, .unset] [(.int (f0_v208 p3))])) _
    refine XS.istore X54.here hx rfl (hb hby at_209) rfl (l' := #[.val (.int p1), .val (.int p2), .val (.int p3), .val (.int p4), .val (.int p5), .val (.int ((p1 &&& (3 : Int32)) - (1 : Int32))), .val (.int (f0_v14 p1)), .val (.int (f0_v23 p1)), .val (.ref b6), .val (.ref b18), .val (.ref b37), .val (.int (f0_v151 p2)), .val (.int (f0_v163 p2)), .val (.int (f0_v175 p2)), .val (.int (f0_v184 p3)), .val (.int (f0_v196 p3)), .val (.int (f0_v208 p3)), .unset, .unset, .unset, .unset, .unset, .unset, .unset, .unset, .unset, .unset, .unset, .unset, .unset, .unset, .unset, .unset, .unset]) rfl ?_
    refine XS.iloadN X54.here hx rfl (hb hby at_211) rfl ?_
    refine XS.sipush X54.here hx rfl (hb hby at_212) ?_
    refine XS.iand X54.here hx rfl (hb hby at_215) rfl ?_
    show Steps p.tables e below (T54.setTop (mkF m 216 #[.val (.int p1), .val (.int p2), .val (.int p3), .val (.int p4), .val (.int p5), .val (.int ((p1 &&& (3 : Int32)) - (1 : Int32))), .val (.int (f0_v14 p1)), .val (.int (f0_v23 p1)), .val (.ref b6), .val (.ref b18), .val (.ref b37), .val (.int (f0_v151 p2)), .val (.int (f0_v163 p2)), .val (.int (f0_v175 p2)), .val (.int (f0_v184 p3)), .val (.int (f0_v196 p3)), .val (.int (f0_v208 p3)), .unset, .unset, .unset, .unset, .unset, .unset, .unset, .unset, .unset, .unset, .unset, .unset, .unset, .unset, .unset, .unset, .unset] [(.int (p4 &&& (255 : Int32)))])) _
    refine XS.iconst X54.here hx rfl (hb hby at_216) ?_
    refine XS.irem X54.here hx rfl (hb hby at_217) rfl (by decide) ?_
    refine XS.istore X54.here hx rfl (hb hby at_218) rfl (l' := #[.val (.int p1), .val (.int p2), .val (.int p3), .val (.int p4), .val (.int p5), .val (.int ((p1 &&& (3 : Int32)) - (1 : Int32))), .val (.int (f0_v14 p1)), .val (.int (f0_v23 p1)), .val (.ref b6), .val (.ref b18), .val (.ref b37), .val (.int (f0_v151 p2)), .val (.int (f0_v163 p2)), .val (.int (f0_v175 p2)), .val (.int (f0_v184 p3)), .val (.int (f0_v196 p3)), .val (.int (f0_v208 p3)), .val (.int (f0_v217 p4)), .unset, .unset, .unset, .unset, .unset, .unset, .unset, .unset, .unset, .unset, .unset, .unset, .unset, .unset, .unset, .unset]) rfl ?_
    refine XS.iloadN X54.here hx rfl (hb hby at_220) rfl ?_
    show Steps p.tables e below (T54.setTop (mkF m 221 #[.val (.int p1), .val (.int p2), .val (.int p3), .val (.int p4), .val (.int p5), .val (.int ((p1 &&& (3 : Int32)) - (1 : Int32))), .val (.int (f0_v14 p1)), .val (.int (f0_v23 p1)), .val (.ref b6), .val (.ref b18), .val (.ref b37), .val (.int (f0_v151 p2)), .val (.int (f0_v163 p2)), .val (.int (f0_v175 p2)), .val (.int (f0_v184 p3)), .val (.int (f0_v196 p3)), .val (.int (f0_v208 p3)), .val (.int (f0_v217 p4)), .unset, .unset, .unset, .unset, .unset, .unset, .unset, .unset, .unset, .unset, .unset, .unset, .unset, .unset, .unset, .unset] [(.int p4)])) _
    refine XS.bipush X54.here hx rfl (hb hby at_221) ?_
    refine XS.iushr X54.here hx rfl (hb hby at_223) rfl ?_
    refine XS.sipush X54.here hx rfl (hb hby at_224) ?_
    refine XS.iand X54.here hx rfl (hb hby at_227) rfl ?_
    show Steps p.tables e below (T54.setTop (mkF m 228 #[.val (.int p1), .val (.int p2), .val (.int p3), .val (.int p4), .val (.int p5), .val (.int ((p1 &&& (3 : Int32)) - (1 : Int32))), .val (.int (f0_v14 p1)), .val (.int (f0_v23 p1)), .val (.ref b6), .val (.ref b18), .val (.ref b37), .val (.int (f0_v151 p2)), .val (.int (f0_v163 p2)), .val (.int (f0_v175 p2)), .val (.int (f0_v184 p3)), .val (.int (f0_v196 p3)), .val (.int (f0_v208 p3)), .val (.int (f0_v217 p4)), .unset, .unset, .unset, .unset, .unset, .unset, .unset, .unset, .unset, .unset, .unset, .unset, .unset, .unset, .unset, .unset] [(.int (((p4.toUInt32 >>> ((8 : Int32) &&& 31).toUInt32).toInt32) &&& (255 : Int32)))])) _
    refine XS.iconst X54.here hx rfl (hb hby at_228) ?_
    refine XS.irem X54.here hx rfl (hb hby at_229) rfl (by decide) ?_
    refine XS.istore X54.here hx rfl (hb hby at_230) rfl (l' := #[.val (.int p1), .val (.int p2), .val (.int p3), .val (.int p4), .val (.int p5), .val (.int ((p1 &&& (3 : Int32)) - (1 : Int32))), .val (.int (f0_v14 p1)), .val (.int (f0_v23 p1)), .val (.ref b6), .val (.ref b18), .val (.ref b37), .val (.int (f0_v151 p2)), .val (.int (f0_v163 p2)), .val (.int (f0_v175 p2)), .val (.int (f0_v184 p3)), .val (.int (f0_v196 p3)), .val (.int (f0_v208 p3)), .val (.int (f0_v217 p4)), .val (.int (f0_v229 p4)), .unset, .unset, .unset, .unset, .unset, .unset, .unset, .unset, .unset, .unset, .unset, .unset, .unset, .unset, .unset]) rfl ?_
    refine XS.iloadN X54.here hx rfl (hb hby at_232) rfl ?_
    show Steps p.tables e below (T54.setTop (mkF m 233 #[.val (.int p1), .val (.int p2), .val (.int p3), .val (.int p4), .val (.int p5), .val (.int ((p1 &&& (3 : Int32)) - (1 : Int32))), .val (.int (f0_v14 p1)), .val (.int (f0_v23 p1)), .val (.ref b6), .val (.ref b18), .val (.ref b37), .val (.int (f0_v151 p2)), .val (.int (f0_v163 p2)), .val (.int (f0_v175 p2)), .val (.int (f0_v184 p3)), .val (.int (f0_v196 p3)), .val (.int (f0_v208 p3)), .val (.int (f0_v217 p4)), .val (.int (f0_v229 p4)), .unset, .unset, .unset, .unset, .unset, .unset, .unset, .unset, .unset, .unset, .unset, .unset, .unset, .unset, .unset] [(.int p4)])) _
    refine XS.bipush X54.here hx rfl (hb hby at_233) ?_
    refine XS.iushr X54.here hx rfl (hb hby at_235) rfl ?_
    refine XS.sipush X54.here hx rfl (hb hby at_236) ?_
    refine XS.iand X54.here hx rfl (hb hby at_239) rfl ?_
    show Steps p.tables e below (T54.setTop (mkF m 240 #[.val (.int p1), .val (.int p2), .val (.int p3), .val (.int p4), .val (.int p5), .val (.int ((p1 &&& (3 : Int32)) - (1 : Int32))), .val (.int (f0_v14 p1)), .val (.int (f0_v23 p1)), .val (.ref b6), .val (.ref b18), .val (.ref b37), .val (.int (f0_v151 p2)), .val (.int (f0_v163 p2)), .val (.int (f0_v175 p2)), .val (.int (f0_v184 p3)), .val (.int (f0_v196 p3)), .val (.int (f0_v208 p3)), .val (.int (f0_v217 p4)), .val (.int (f0_v229 p4)), .unset, .unset, .unset, .unset, .unset, .unset, .unset, .unset, .unset, .unset, .unset, .unset, .unset, .unset, .unset] [(.int (((p4.toUInt32 >>> ((16 : Int32) &&& 31).toUInt32).toInt32) &&& (255 : Int32)))])) _
    refine XS.iconst X54.here hx rfl (hb hby at_240) ?_
    refine XS.irem X54.here hx rfl (hb hby at_241) rfl (by decide) ?_
    refine XS.istore X54.here hx rfl (hb hby at_242) rfl (l' := #[.val (.int p1), .val (.int p2), .val (.int p3), .val (.int p4), .val (.int p5), .val (.int ((p1 &&& (3 : Int32)) - (1 : Int32))), .val (.int (f0_v14 p1)), .val (.int (f0_v23 p1)), .val (.ref b6), .val (.ref b18), .val (.ref b37), .val (.int (f0_v151 p2)), .val (.int (f0_v163 p2)), .val (.int (f0_v175 p2)), .val (.int (f0_v184 p3)), .val (.int (f0_v196 p3)), .val (.int (f0_v208 p3)), .val (.int (f0_v217 p4)), .val (.int (f0_v229 p4)), .val (.int (f0_v241 p4)), .unset, .unset, .unset, .unset, .unset, .unset, .unset, .unset, .unset, .unset, .unset, .unset, .unset, .unset]) rfl ?_
    refine XS.iload X54.here hx rfl (hb hby at_244) rfl ?_
    show Steps p.tables e below (T54.setTop (mkF m 246 #[.val (.int p1), .val (.int p2), .val (.int p3), .val (.int p4), .val (.int p5), .val (.int ((p1 &&& (3 : Int32)) - (1 : Int32))), .val (.int (f0_v14 p1)), .val (.int (f0_v23 p1)), .val (.ref b6), .val (.ref b18), .val (.ref b37), .val (.int (f0_v151 p2)), .val (.int (f0_v163 p2)), .val (.int (f0_v175 p2)), .val (.int (f0_v184 p3)), .val (.int (f0_v196 p3)), .val (.int (f0_v208 p3)), .val (.int (f0_v217 p4)), .val (.int (f0_v229 p4)), .val (.int (f0_v241 p4)), .unset, .unset, .unset, .unset, .unset, .unset, .unset, .unset, .unset, .unset, .unset, .unset, .unset, .unset] [(.int p5)])) _
    refine XS.sipush X54.here hx rfl (hb hby at_246) ?_
    refine XS.iand X54.here hx rfl (hb hby at_249) rfl ?_
    refine XS.iconst X54.here hx rfl (hb hby at_250) ?_
    refine XS.irem X54.here hx rfl (hb hby at_251) rfl (by decide) ?_
    show Steps p.tables e below (T54.setTop (mkF m 252 #[.val (.int p1), .val (.int p2), .val (.int p3), .val (.int p4), .val (.int p5), .val (.int ((p1 &&& (3 : Int32)) - (1 : Int32))), .val (.int (f0_v14 p1)), .val (.int (f0_v23 p1)), .val (.ref b6), .val (.ref b18), .val (.ref b37), .val (.int (f0_v151 p2)), .val (.int (f0_v163 p2)), .val (.int (f0_v175 p2)), .val (.int (f0_v184 p3)), .val (.int (f0_v196 p3)), .val (.int (f0_v208 p3)), .val (.int (f0_v217 p4)), .val (.int (f0_v229 p4)), .val (.int (f0_v241 p4)), .unset, .unset, .unset, .unset, .unset, .unset, .unset, .unset, .unset, .unset, .unset, .unset, .unset, .unset] [(.int (f0_v251 p5))])) _
    refine XS.istore X54.here hx rfl (hb hby at_252) rfl (l' := #[.val (.int p1), .val (.int p2), .val (.int p3), .val (.int p4), .val (.int p5), .val (.int ((p1 &&& (3 : Int32)) - (1 : Int32))), .val (.int (f0_v14 p1)), .val (.int (f0_v23 p1)), .val (.ref b6), .val (.ref b18), .val (.ref b37), .val (.int (f0_v151 p2)), .val (.int (f0_v163 p2)), .val (.int (f0_v175 p2)), .val (.int (f0_v184 p3)), .val (.int (f0_v196 p3)), .val (.int (f0_v208 p3)), .val (.int (f0_v217 p4)), .val (.int (f0_v229 p4)), .val (.int (f0_v241 p4)), .val (.int (f0_v251 p5)), .unset, .unset, .unset, .unset, .unset, .unset, .unset, .unset, .unset, .unset, .unset, .unset, .unset]) rfl ?_
    refine XS.iload X54.here hx rfl (hb hby at_254) rfl ?_
    refine XS.bipush X54.here hx rfl (hb hby at_256) ?_
    refine XS.iushr X54.here hx rfl (hb hby at_258) rfl ?_
    show Steps p.tables e below (T54.setTop (mkF m 259 #[.val (.int p1), .val (.int p2), .val (.int p3), .val (.int p4), .val (.int p5), .val (.int ((p1 &&& (3 : Int32)) - (1 : Int32))), .val (.int (f0_v14 p1)), .val (.int (f0_v23 p1)), .val (.ref b6), .val (.ref b18), .val (.ref b37), .val (.int (f0_v151 p2)), .val (.int (f0_v163 p2)), .val (.int (f0_v175 p2)), .val (.int (f0_v184 p3)), .val (.int (f0_v196 p3)), .val (.int (f0_v208 p3)), .val (.int (f0_v217 p4)), .val (.int (f0_v229 p4)), .val (.int (f0_v241 p4)), .val (.int (f0_v251 p5)), .unset, .unset, .unset, .unset, .unset, .unset, .unset, .unset, .unset, .unset, .unset, .unset, .unset] [(.int ((p5.toUInt32 >>> ((8 : Int32) &&& 31).toUInt32).toInt32))])) _
    refine XS.iconst X54.here hx rfl (hb hby at_259) ?_
    refine XS.iand X54.here hx rfl (hb hby at_260) rfl ?_
    refine XS.istore X54.here hx rfl (hb hby at_261) rfl (l' := #[.val (.int p1), .val (.int p2), .val (.int p3), .val (.int p4), .val (.int p5), .val (.int ((p1 &&& (3 : Int32)) - (1 : Int32))), .val (.int (f0_v14 p1)), .val (.int (f0_v23 p1)), .val (.ref b6), .val (.ref b18), .val (.ref b37), .val (.int (f0_v151 p2)), .val (.int (f0_v163 p2)), .val (.int (f0_v175 p2)), .val (.int (f0_v184 p3)), .val (.int (f0_v196 p3)), .val (.int (f0_v208 p3)), .val (.int (f0_v217 p4)), .val (.int (f0_v229 p4)), .val (.int (f0_v241 p4)), .val (.int (f0_v251 p5)), .val (.int (f0_v261 p5)), .unset, .unset, .unset, .unset, .unset, .unset, .unset, .unset, .unset, .unset, .unset, .unset]) rfl ?_
    refine XS.iload X54.here hx rfl (hb hby at_263) rfl ?_
    show Steps p.tables e below (T54.setTop (mkF m 265 #[.val (.int p1), .val (.int p2), .val (.int p3), .val (.int p4), .val (.int p5), .val (.int ((p1 &&& (3 : Int32)) - (1 : Int32))), .val (.int (f0_v14 p1)), .val (.int (f0_v23 p1)), .val (.ref b6), .val (.ref b18), .val (.ref b37), .val (.int (f0_v151 p2)), .val (.int (f0_v163 p2)), .val (.int (f0_v175 p2)), .val (.int (f0_v184 p3)), .val (.int (f0_v196 p3)), .val (.int (f0_v208 p3)), .val (.int (f0_v217 p4)), .val (.int (f0_v229 p4)), .val (.int (f0_v241 p4)), .val (.int (f0_v251 p5)), .val (.int (f0_v261 p5)), .unset, .unset, .unset, .unset, .unset, .unset, .unset, .unset, .unset, .unset, .unset, .unset] [(.int (f0_v261 p5))])) _
    refine XS.iconst X54.here hx rfl (hb hby at_265) ?_
    exact k
  have pre14 : ∀ t, Steps p.tables e below (T54.setTop (mkF m 274 #[.val (.int p1), .val (.int p2), .val (.int p3), .val (.int p4), .val (.int p5), .val (.int ((p1 &&& (3 : Int32)) - (1 : Int32))), .val (.int (f0_v14 p1)), .val (.int (f0_v23 p1)), .val (.ref b6), .val (.ref b18), .val (.ref b37), .val (.int (f0_v151 p2)), .val (.int (f0_v163 p2)), .val (.int (f0_v175 p2)), .val (.int (f0_v184 p3)), .val (.int (f0_v196 p3)), .val (.int (f0_v208 p3)), .val (.int (f0_v217 p4)), .val (.int (f0_v229 p4)), .val (.int (f0_v241 p4)), .val (.int (f0_v251 p5)), .val (.int (f0_v261 p5)), .unset, .unset, .unset, .unset, .unset, .unset, .unset, .unset, .unset, .unset, .unset, .unset] [(.int (f0_s0_274 p5))])) t → Steps p.tables e below (s₁.setTop (entryFrame m #[(.int p1), (.int p2), (.int p3), (.int p4), (.int p5)] maxLocals)) t := by
    intro t k
    by_cases hc266 : (f0_v261 p5) < (1 : Int32)
    · have eq15 := (show (f0_s0_274 p5) = (0 : Int32) from by unfold f0_s0_274; simp only [if_pos hc266])
      try rw [eq15] at k
      refine pre13 t ?_
      refine XS.icmpYes X54.here hx rfl (pc0 := 266) (pc' := 273) rfl (hb hby at_266) rfl (tlt hc266).1 (by decide) (by decide) ?_
      refine XS.iconst X54.here hx rfl (hb hby at_273) ?_
      exact k
    · have eq16 := (show (f0_s0_274 p5) = (1 : Int32) from by unfold f0_s0_274; simp only [if_neg hc266])
      try rw [eq16] at k
      refine pre13 t ?_
      refine XS.icmpNo X54.here hx rfl (hb hby at_266) rfl (flt hc266).1 ?_
      show Steps p.tables e below (T54.setTop (mkF m 269 #[.val (.int p1), .val (.int p2), .val (.int p3), .val (.int p4), .val (.int p5), .val (.int ((p1 &&& (3 : Int32)) - (1 : Int32))), .val (.int (f0_v14 p1)), .val (.int (f0_v23 p1)), .val (.ref b6), .val (.ref b18), .val (.ref b37), .val (.int (f0_v151 p2)), .val (.int (f0_v163 p2)), .val (.int (f0_v175 p2)), .val (.int (f0_v184 p3)), .val (.int (f0_v196 p3)), .val (.int (f0_v208 p3)), .val (.int (f0_v217 p4)), .val (.int (f0_v229 p4)), .val (.int (f0_v241 p4)), .val (.int (f0_v251 p5)), .val (.int (f0_v261 p5)), .unset, .unset, .unset, .unset, .unset, .unset, .unset, .unset, .unset, .unset, .unset, .unset] [])) _
      refine XS.iconst X54.here hx rfl (hb hby at_269) ?_
      refine XS.goto X54.here hx rfl (pc0 := 270) (pc' := 274) rfl (hb hby at_270) (by decide) (by decide) ?_
      exact k
  have pre17 : ∀ t, Steps p.tables e below (T54.setTop (mkF m 279 #[.val (.int p1), .val (.int p2), .val (.int p3), .val (.int p4), .val (.int p5), .val (.int ((p1 &&& (3 : Int32)) - (1 : Int32))), .val (.int (f0_v14 p1)), .val (.int (f0_v23 p1)), .val (.ref b6), .val (.ref b18), .val (.ref b37), .val (.int (f0_v151 p2)), .val (.int (f0_v163 p2)), .val (.int (f0_v175 p2)), .val (.int (f0_v184 p3)), .val (.int (f0_v196 p3)), .val (.int (f0_v208 p3)), .val (.int (f0_v217 p4)), .val (.int (f0_v229 p4)), .val (.int (f0_v241 p4)), .val (.int (f0_v251 p5)), .val (.int (f0_v261 p5)), .val (.int (f0_s0_274 p5)), .unset, .unset, .unset, .unset, .unset, .unset, .unset, .unset, .unset, .unset, .unset] [(.int (2 : Int32)), (.int (f0_v261 p5))])) t → Steps p.tables e below (s₁.setTop (entryFrame m #[(.int p1), (.int p2), (.int p3), (.int p4), (.int p5)] maxLocals)) t := by
    intro t k
    refine pre14 t ?_
    refine XS.istore X54.here hx rfl (hb hby at_274) rfl (l' := #[.val (.int p1), .val (.int p2), .val (.int p3), .val (.int p4), .val (.int p5), .val (.int ((p1 &&& (3 : Int32)) - (1 : Int32))), .val (.int (f0_v14 p1)), .val (.int (f0_v23 p1)), .val (.ref b6), .val (.ref b18), .val (.ref b37), .val (.int (f0_v151 p2)), .val (.int (f0_v163 p2)), .val (.int (f0_v175 p2)), .val (.int (f0_v184 p3)), .val (.int (f0_v196 p3)), .val (.int (f0_v208 p3)), .val (.int (f0_v217 p4)), .val (.int (f0_v229 p4)), .val (.int (f0_v241 p4)), .val (.int (f0_v251 p5)), .val (.int (f0_v261 p5)), .val (.int (f0_s0_274 p5)), .unset, .unset, .unset, .unset, .unset, .unset, .unset, .unset, .unset, .unset, .unset]) rfl ?_
    refine XS.iload X54.here hx rfl (hb hby at_276) rfl ?_
    show Steps p.tables e below (T54.setTop (mkF m 278 #[.val (.int p1), .val (.int p2), .val (.int p3), .val (.int p4), .val (.int p5), .val (.int ((p1 &&& (3 : Int32)) - (1 : Int32))), .val (.int (f0_v14 p1)), .val (.int (f0_v23 p1)), .val (.ref b6), .val (.ref b18), .val (.ref b37), .val (.int (f0_v151 p2)), .val (.int (f0_v163 p2)), .val (.int (f0_v175 p2)), .val (.int (f0_v184 p3)), .val (.int (f0_v196 p3)), .val (.int (f0_v208 p3)), .val (.int (f0_v217 p4)), .val (.int (f0_v229 p4)), .val (.int (f0_v241 p4)), .val (.int (f0_v251 p5)), .val (.int (f0_v261 p5)), .val (.int (f0_s0_274 p5)), .unset, .unset, .unset, .unset, .unset, .unset, .unset, .unset, .unset, .unset, .unset] [(.int (f0_v261 p5))])) _
    refine XS.iconst X54.here hx rfl (hb hby at_278) ?_
    exact k
  have pre18 : ∀ t, Steps p.tables e below (T54.setTop (mkF m 287 #[.val (.int p1), .val (.int p2), .val (.int p3), .val (.int p4), .val (.int p5), .val (.int ((p1 &&& (3 : Int32)) - (1 : Int32))), .val (.int (f0_v14 p1)), .val (.int (f0_v23 p1)), .val (.ref b6), .val (.ref b18), .val (.ref b37), .val (.int (f0_v151 p2)), .val (.int (f0_v163 p2)), .val (.int (f0_v175 p2)), .val (.int (f0_v184 p3)), .val (.int (f0_v196 p3)), .val (.int (f0_v208 p3)), .val (.int (f0_v217 p4)), .val (.int (f0_v229 p4)), .val (.int (f0_v241 p4)), .val (.int (f0_v251 p5)), .val (.int (f0_v261 p5)), .val (.int (f0_s0_274 p5)), .unset, .unset, .unset, .unset, .unset, .unset, .unset, .unset, .unset, .unset, .unset] [(.int (f0_s0_287 p5))])) t → Steps p.tables e below (s₁.setTop (entryFrame m #[(.int p1), (.int p2), (.int p3), (.int p4), (.int p5)] maxLocals)) t := by
    intro t k
    by_cases hc279 : (f0_v261 p5) < (2 : Int32)
    · have eq19 := (show (f0_s0_287 p5) = (0 : Int32) from by unfold f0_s0_287; simp only [if_pos hc279])
      try rw [eq19] at k
      refine pre17 t ?_
      refine XS.icmpYes X54.here hx rfl (pc0 := 279) (pc' := 286) rfl (hb hby at_279) rfl (tlt hc279).1 (by decide) (by decide) ?_
      refine XS.iconst X54.here hx rfl (hb hby at_286) ?_
      exact k
    · have eq20 := (show (f0_s0_287 p5) = (1 : Int32) from by unfold f0_s0_287; simp only [if_neg hc279])
      try rw [eq20] at k
      refine pre17 t ?_
      refine XS.icmpNo X54.here hx rfl (hb hby at_279) rfl (flt hc279).1 ?_
      show Steps p.tables e below (T54.setTop (mkF m 282 #[.val (.int p1), .val (.int p2), .val (.int p3), .val (.int p4), .val (.int p5), .val (.int ((p1 &&& (3 : Int32)) - (1 : Int32))), .val (.int (f0_v14 p1)), .val (.int (f0_v23 p1)), .val (.ref b6), .val (.ref b18), .val (.ref b37), .val (.int (f0_v151 p2)), .val (.int (f0_v163 p2)), .val (.int (f0_v175 p2)), .val (.int (f0_v184 p3)), .val (.int (f0_v196 p3)), .val (.int (f0_v208 p3)), .val (.int (f0_v217 p4)), .val (.int (f0_v229 p4)), .val (.int (f0_v241 p4)), .val (.int (f0_v251 p5)), .val (.int (f0_v261 p5)), .val (.int (f0_s0_274 p5)), .unset, .unset, .unset, .unset, .unset, .unset, .unset, .unset, .unset, .unset, .unset] [])) _
      refine XS.iconst X54.here hx rfl (hb hby at_282) ?_
      refine XS.goto X54.here hx rfl (pc0 := 283) (pc' := 287) rfl (hb hby at_283) (by decide) (by decide) ?_
      exact k
  have pre21 : ∀ t, Steps p.tables e below (T54.setTop (mkF m 292 #[.val (.int p1), .val (.int p2), .val (.int p3), .val (.int p4), .val (.int p5), .val (.int ((p1 &&& (3 : Int32)) - (1 : Int32))), .val (.int (f0_v14 p1)), .val (.int (f0_v23 p1)), .val (.ref b6), .val (.ref b18), .val (.ref b37), .val (.int (f0_v151 p2)), .val (.int (f0_v163 p2)), .val (.int (f0_v175 p2)), .val (.int (f0_v184 p3)), .val (.int (f0_v196 p3)), .val (.int (f0_v208 p3)), .val (.int (f0_v217 p4)), .val (.int (f0_v229 p4)), .val (.int (f0_v241 p4)), .val (.int (f0_v251 p5)), .val (.int (f0_v261 p5)), .val (.int (f0_s0_274 p5)), .val (.int (f0_s0_287 p5)), .unset, .unset, .unset, .unset, .unset, .unset, .unset, .unset, .unset, .unset] [(.int (3 : Int32)), (.int (f0_v261 p5))])) t → Steps p.tables e below (s₁.setTop (entryFrame m #[(.int p1), (.int p2), (.int p3), (.int p4), (.int p5)] maxLocals)) t := by
    intro t k
    refine pre18 t ?_
    refine XS.istore X54.here hx rfl (hb hby at_287) rfl (l' := #[.val (.int p1), .val (.int p2), .val (.int p3), .val (.int p4), .val (.int p5), .val (.int ((p1 &&& (3 : Int32)) - (1 : Int32))), .val (.int (f0_v14 p1)), .val (.int (f0_v23 p1)), .val (.ref b6), .val (.ref b18), .val (.ref b37), .val (.int (f0_v151 p2)), .val (.int (f0_v163 p2)), .val (.int (f0_v175 p2)), .val (.int (f0_v184 p3)), .val (.int (f0_v196 p3)), .val (.int (f0_v208 p3)), .val (.int (f0_v217 p4)), .val (.int (f0_v229 p4)), .val (.int (f0_v241 p4)), .val (.int (f0_v251 p5)), .val (.int (f0_v261 p5)), .val (.int (f0_s0_274 p5)), .val (.int (f0_s0_287 p5)), .unset, .unset, .unset, .unset, .unset, .unset, .unset, .unset, .unset, .unset]) rfl ?_
    refine XS.iload X54.here hx rfl (hb hby at_289) rfl ?_
    show Steps p.tables e below (T54.setTop (mkF m 291 #[.val (.int p1), .val (.int p2), .val (.int p3), .val (.int p4), .val (.int p5), .val (.int ((p1 &&& (3 : Int32)) - (1 : Int32))), .val (.int (f0_v14 p1)), .val (.int (f0_v23 p1)), .val (.ref b6), .val (.ref b18), .val (.ref b37), .val (.int (f0_v151 p2)), .val (.int (f0_v163 p2)), .val (.int (f0_v175 p2)), .val (.int (f0_v184 p3)), .val (.int (f0_v196 p3)), .val (.int (f0_v208 p3)), .val (.int (f0_v217 p4)), .val (.int (f0_v229 p4)), .val (.int (f0_v241 p4)), .val (.int (f0_v251 p5)), .val (.int (f0_v261 p5)), .val (.int (f0_s0_274 p5)), .val (.int (f0_s0_287 p5)), .unset, .unset, .unset, .unset, .unset, .unset, .unset, .unset, .unset, .unset] [(.int (f0_v261 p5))])) _
    refine XS.iconst X54.here hx rfl (hb hby at_291) ?_
    exact k
  have pre22 : ∀ t, Steps p.tables e below (T54.setTop (mkF m 300 #[.val (.int p1), .val (.int p2), .val (.int p3), .val (.int p4), .val (.int p5), .val (.int ((p1 &&& (3 : Int32)) - (1 : Int32))), .val (.int (f0_v14 p1)), .val (.int (f0_v23 p1)), .val (.ref b6), .val (.ref b18), .val (.ref b37), .val (.int (f0_v151 p2)), .val (.int (f0_v163 p2)), .val (.int (f0_v175 p2)), .val (.int (f0_v184 p3)), .val (.int (f0_v196 p3)), .val (.int (f0_v208 p3)), .val (.int (f0_v217 p4)), .val (.int (f0_v229 p4)), .val (.int (f0_v241 p4)), .val (.int (f0_v251 p5)), .val (.int (f0_v261 p5)), .val (.int (f0_s0_274 p5)), .val (.int (f0_s0_287 p5)), .unset, .unset, .unset, .unset, .unset, .unset, .unset, .unset, .unset, .unset] [(.int (f0_s0_300 p5))])) t → Steps p.tables e below (s₁.setTop (entryFrame m #[(.int p1), (.int p2), (.int p3), (.int p4), (.int p5)] maxLocals)) t := by
    intro t k
    by_cases hc292 : (f0_v261 p5) < (3 : Int32)
    · have eq23 := (show (f0_s0_300 p5) = (0 : Int32) from by unfold f0_s0_300; simp only [if_pos hc292])
      try rw [eq23] at k
      refine pre21 t ?_
      refine XS.icmpYes X54.here hx rfl (pc0 := 292) (pc' := 299) rfl (hb hby at_292) rfl (tlt hc292).1 (by decide) (by decide) ?_
      refine XS.iconst X54.here hx rfl (hb hby at_299) ?_
      exact k
    · have eq24 := (show (f0_s0_300 p5) = (1 : Int32) from by unfold f0_s0_300; simp only [if_neg hc292])
      try rw [eq24] at k
      refine pre21 t ?_
      refine XS.icmpNo X54.here hx rfl (hb hby at_292) rfl (flt hc292).1 ?_
      show Steps p.tables e below (T54.setTop (mkF m 295 #[.val (.int p1), .val (.int p2), .val (.int p3), .val (.int p4), .val (.int p5), .val (.int ((p1 &&& (3 : Int32)) - (1 : Int32))), .val (.int (f0_v14 p1)), .val (.int (f0_v23 p1)), .val (.ref b6), .val (.ref b18), .val (.ref b37), .val (.int (f0_v151 p2)), .val (.int (f0_v163 p2)), .val (.int (f0_v175 p2)), .val (.int (f0_v184 p3)), .val (.int (f0_v196 p3)), .val (.int (f0_v208 p3)), .val (.int (f0_v217 p4)), .val (.int (f0_v229 p4)), .val (.int (f0_v241 p4)), .val (.int (f0_v251 p5)), .val (.int (f0_v261 p5)), .val (.int (f0_s0_274 p5)), .val (.int (f0_s0_287 p5)), .unset, .unset, .unset, .unset, .unset, .unset, .unset, .unset, .unset, .unset] [])) _
      refine XS.iconst X54.here hx rfl (hb hby at_295) ?_
      refine XS.goto X54.here hx rfl (pc0 := 296) (pc' := 300) rfl (hb hby at_296) (by decide) (by decide) ?_
      exact k
  obtain ⟨T60, h60, X60, e60, E60, A60, D60, -, st60⟩ := newO X54 hx hZ hown (hw _ (List.mem_of_getElem? (i := 6) rfl)) (hw _ (List.mem_of_getElem? (i := 7) rfl)) (hw _ (List.mem_of_getElem? (i := 8) rfl)) e54 (g := (mkF m 302 #[.val (.int p1), .val (.int p2), .val (.int p3), .val (.int p4), .val (.int p5), .val (.int ((p1 &&& (3 : Int32)) - (1 : Int32))), .val (.int (f0_v14 p1)), .val (.int (f0_v23 p1)), .val (.ref b6), .val (.ref b18), .val (.ref b37), .val (.int (f0_v151 p2)), .val (.int (f0_v163 p2)), .val (.int (f0_v175 p2)), .val (.int (f0_v184 p3)), .val (.int (f0_v196 p3)), .val (.int (f0_v208 p3)), .val (.int (f0_v217 p4)), .val (.int (f0_v229 p4)), .val (.int (f0_v241 p4)), .val (.int (f0_v251 p5)), .val (.int (f0_v261 p5)), .val (.int (f0_s0_274 p5)), .val (.int (f0_s0_287 p5)), .val (.int (f0_s0_300 p5)), .unset, .unset, .unset, .unset, .unset, .unset, .unset, .unset, .unset] [])) rfl (hb hby at_302) (by decide) (by decide)
  obtain ⟨b60, g60⟩ : ∃ z, z = h54.size := ⟨_, rfl⟩
  rw [← g60] at A60 D60 st60
  have ne_b6_b60 : b6 ≠ b60 := Nat.ne_of_lt (Nat.lt_of_lt_of_le c56.lt (Nat.le_of_eq g60.symm))
  have ne_b18_b60 : b18 ≠ b60 := Nat.ne_of_lt (Nat.lt_of_lt_of_le c57.lt (Nat.le_of_eq g60.symm))
  have ne_b37_b60 : b37 ≠ b60 := Nat.ne_of_lt (Nat.lt_of_lt_of_le c58.lt (Nat.le_of_eq g60.symm))
  have g_b60 : n0 ≤ b60 := Nat.le_trans c55 (Nat.le_of_eq g60.symm)
  have c61 : n0 ≤ h60.size := Nat.le_trans c55 E60.1
  have c62 : IAr Z h60 b6 .int (3 : Int32) (f0_v42 p1) := c56.ext E60
  have c63 : IAr Z h60 b18 .int (3 : Int32) (f0_v86 p1) := c57.ext E60
  have c64 : Exa Z h60 b37 "[Z" := c58.ext E60
  have c65 : IAr Z h60 b37 .boolean (3 : Int32) (f0_v142 p1) := c59.ext E60
  have c66 : Fld Z h60 b60 "com/example/podflow/podflow/simulation/Pickup" "vehicle" "I" (.int (0 : Int32)) := D60 (Or.inr (hw _ (List.mem_of_getElem? (i := 21) rfl))) (ty := .int) (by decide)
  have c67 : Fld Z h60 b60 "com/example/podflow/podflow/simulation/Pickup" "time" "J" (.long (0 : Int64)) := D60 (Or.inr (hw _ (List.mem_of_getElem? (i := 23) rfl))) (ty := .long) (by decide)
  have c68 : Fld Z h60 b60 "com/example/podflow/podflow/simulation/Pickup" "emptyFrom" "I" (.int (0 : Int32)) := D60 (Or.inr (hw _ (List.mem_of_getElem? (i := 25) rfl))) (ty := .int) (by decide)
  have c69 : Fld Z h60 b60 "com/example/podflow/podflow/simulation/Pickup" "emptyTo" "I" (.int (0 : Int32)) := D60 (Or.inr (hw _ (List.mem_of_getElem? (i := 27) rfl))) (ty := .int) (by decide)
  obtain ⟨_, _, ⟨T70, L70, k70, n70⟩, -, X70, ⟨Lc70, hQ70, l70, y70, z70⟩, st70⟩ := X60.specialBack hx (y := (⟨"com/example/podflow/podflow/simulation/Pickup", "<init>", "(IJII)V"⟩ : MethodName)) rfl hown (mvT hZ (hw _ (List.mem_of_getElem? (i := 9) rfl))) (mvT hZ (hw _ (List.mem_of_getElem? (i := 10) rfl))) (mvT hZ (hw _ (List.mem_of_getElem? (i := 11) rfl))) (by decide) (backOf (W := 1) (rm2 l Z a0 hw [] b60 (f0_v151 p2) (0 : Int64) (f0_v163 p2) (f0_v175 p2) (0 : Int32) (0 : Int64) (0 : Int32) (0 : Int32) h60 n0 c61 A60 g_b60 c66 c67 c68 c69) hZ (hw _ (List.mem_of_getElem? (i := 11) rfl)) (hw _ (List.mem_of_getElem? (i := 8) rfl)) (by decide) (by decide)) (g := (mkF m 313 #[.val (.int p1), .val (.int p2), .val (.int p3), .val (.int p4), .val (.int p5), .val (.int ((p1 &&& (3 : Int32)) - (1 : Int32))), .val (.int (f0_v14 p1)), .val (.int (f0_v23 p1)), .val (.ref b6), .val (.ref b18), .val (.ref b37), .val (.int (f0_v151 p2)), .val (.int (f0_v163 p2)), .val (.int (f0_v175 p2)), .val (.int (f0_v184 p3)), .val (.int (f0_v196 p3)), .val (.int (f0_v208 p3)), .val (.int (f0_v217 p4)), .val (.int (f0_v229 p4)), .val (.int (f0_v241 p4)), .val (.int (f0_v251 p5)), .val (.int (f0_v261 p5)), .val (.int (f0_s0_274 p5)), .val (.int (f0_s0_287 p5)), .val (.int (f0_s0_300 p5)), .unset, .unset, .unset, .unset, .unset, .unset, .unset, .unset, .unset] [(.int (f0_v175 p2)), (.int (f0_v163 p2)), (.long (0 : Int64)), (.int (f0_v151 p2)), (.ref b60), (.ref b60)])) rfl (by rw [hml]; rfl) (Steps.refl _) (a := b60) (argsL := [(.int (f0_v151 p2)), (.long (0 : Int64)), (.int (f0_v163 p2)), (.int (f0_v175 p2))]) (rest := [(.ref b60)]) (lenOf pd_5 rfl) rfl (by show 2 * 0 + _ ≤ _; exact Nat.le_of_eq rfl) (hb hby at_313) (fun _ _ => ⟨rfl, e60, (by decide : 4 + 0 ≤ _), (by decide : 13 + 0 ≤ _)⟩)
  dsimp only [Pt.U, Pt.locs, Pt.cells, Pt.slots] at X70 l70 y70 z70 st70 hQ70
  subst l70 y70 z70
  obtain ⟨rfl, N70q, K70, o70_0, o70_1, o70_2, o70_3⟩ := hQ70
  have N70 := Fr.app N54 N70q
  have c71 : n0 ≤ T70.heap.size := Nat.le_trans c61 K70.1
  have c72 : IAr Z T70.heap b6 .int (3 : Int32) (f0_v42 p1) := c62.keep K70 (ninS ne_b6_b60 nin0)
  have c73 : IAr Z T70.heap b18 .int (3 : Int32) (f0_v86 p1) := c63.keep K70 (ninS ne_b18_b60 nin0)
  have c74 : Exa Z T70.heap b37 "[Z" := c64.keep K70
  have c75 : IAr Z T70.heap b37 .boolean (3 : Int32) (f0_v142 p1) := c65.keep K70 (ninS ne_b37_b60 nin0)
  have c76 : Exa Z T70.heap b60 "com/example/podflow/podflow/simulation/Pickup" := A60.keep K70
  have c77 : Fld Z T70.heap b60 "com/example/podflow/podflow/simulation/Pickup" "vehicle" "I" (.int (f2_o0 (f0_v151 p2) (0 : Int64) (f0_v163 p2) (f0_v175 p2) (0 : Int32) (0 : Int64) (0 : Int32) (0 : Int32))) := o70_0
  have c78 : Fld Z T70.heap b60 "com/example/podflow/podflow/simulation/Pickup" "time" "J" (.long (f2_o1 (f0_v151 p2) (0 : Int64) (f0_v163 p2) (f0_v175 p2) (0 : Int32) (0 : Int64) (0 : Int32) (0 : Int32))) := o70_1
  have c79 : Fld Z T70.heap b60 "com/example/podflow/podflow/simulation/Pickup" "emptyFrom" "I" (.int (f2_o2 (f0_v151 p2) (0 : Int64) (f0_v163 p2) (f0_v175 p2) (0 : Int32) (0 : Int64) (0 : Int32) (0 : Int32))) := o70_2
  have c80 : Fld Z T70.heap b60 "com/example/podflow/podflow/simulation/Pickup" "emptyTo" "I" (.int (f2_o3 (f0_v151 p2) (0 : Int64) (f0_v163 p2) (f0_v175 p2) (0 : Int32) (0 : Int64) (0 : Int32) (0 : Int32))) := o70_3
  obtain ⟨T81, h81, X81, e81, E81, A81, D81, -, st81⟩ := newO X70 hx hZ hown (hw _ (List.mem_of_getElem? (i := 6) rfl)) (hw _ (List.mem_of_getElem? (i := 7) rfl)) (hw _ (List.mem_of_getElem? (i := 8) rfl)) rfl (g := (mkF m 318 #[.val (.int p1), .val (.int p2), .val (.int p3), .val (.int p4), .val (.int p5), .val (.int ((p1 &&& (3 : Int32)) - (1 : Int32))), .val (.int (f0_v14 p1)), .val (.int (f0_v23 p1)), .val (.ref b6), .val (.ref b18), .val (.ref b37), .val (.int (f0_v151 p2)), .val (.int (f0_v163 p2)), .val (.int (f0_v175 p2)), .val (.int (f0_v184 p3)), .val (.int (f0_v196 p3)), .val (.int (f0_v208 p3)), .val (.int (f0_v217 p4)), .val (.int (f0_v229 p4)), .val (.int (f0_v241 p4)), .val (.int (f0_v251 p5)), .val (.int (f0_v261 p5)), .val (.int (f0_s0_274 p5)), .val (.int (f0_s0_287 p5)), .val (.int (f0_s0_300 p5)), .val (.ref b60), .unset, .unset, .unset, .unset, .unset, .unset, .unset, .unset] [])) rfl (hb hby at_318) (by decide) (by decide)
  obtain ⟨b81, g81⟩ : ∃ z, z = T70.heap.size := ⟨_, rfl⟩
  rw [← g81] at A81 D81 st81
  have ne_b6_b81 : b6 ≠ b81 := Nat.ne_of_lt (Nat.lt_of_lt_of_le c72.lt (Nat.le_of_eq g81.symm))
  have ne_b18_b81 : b18 ≠ b81 := Nat.ne_of_lt (Nat.lt_of_lt_of_le c73.lt (Nat.le_of_eq g81.symm))
  have ne_b37_b81 : b37 ≠ b81 := Nat.ne_of_lt (Nat.lt_of_lt_of_le c74.lt (Nat.le_of_eq g81.symm))
  have ne_b60_b81 : b60 ≠ b81 := Nat.ne_of_lt (Nat.lt_of_lt_of_le c76.lt (Nat.le_of_eq g81.symm))
  have g_b81 : n0 ≤ b81 := Nat.le_trans c71 (Nat.le_of_eq g81.symm)
  have c82 : n0 ≤ h81.size := Nat.le_trans c71 E81.1
  have c83 : IAr Z h81 b6 .int (3 : Int32) (f0_v42 p1) := c72.ext E81
  have c84 : IAr Z h81 b18 .int (3 : Int32) (f0_v86 p1) := c73.ext E81
  have c85 : Exa Z h81 b37 "[Z" := c74.ext E81
  have c86 : IAr Z h81 b37 .boolean (3 : Int32) (f0_v142 p1) := c75.ext E81
  have c87 : Exa Z h81 b60 "com/example/podflow/podflow/simulation/Pickup" := c76.ext E81
  have c88 : Fld Z h81 b60 "com/example/podflow/podflow/simulation/Pickup" "vehicle" "I" (.int (f2_o0 (f0_v151 p2) (0 : Int64) (f0_v163 p2) (f0_v175 p2) (0 : Int32) (0 : Int64) (0 : Int32) (0 : Int32))) := c77.ext E81
  have c89 : Fld Z h81 b60 "com/example/podflow/podflow/simulation/Pickup" "time" "J" (.long (f2_o1 (f0_v151 p2) (0 : Int64) (f0_v163 p2) (f0_v175 p2) (0 : Int32) (0 : Int64) (0 : Int32) (0 : Int32))) := c78.ext E81
  have c90 : Fld Z h81 b60 "com/example/podflow/podflow/simulation/Pickup" "emptyFrom" "I" (.int (f2_o2 (f0_v151 p2) (0 : Int64) (f0_v163 p2) (f0_v175 p2) (0 : Int32) (0 : Int64) (0 : Int32) (0 : Int32))) := c79.ext E81
  have c91 : Fld Z h81 b60 "com/example/podflow/podflow/simulation/Pickup" "emptyTo" "I" (.int (f2_o3 (f0_v151 p2) (0 : Int64) (f0_v163 p2) (f0_v175 p2) (0 : Int32) (0 : Int64) (0 : Int32) (0 : Int32))) := c80.ext E81
  have c92 : Fld Z h81 b81 "com/example/podflow/podflow/simulation/Pickup" "vehicle" "I" (.int (0 : Int32)) := D81 (Or.inr (hw _ (List.mem_of_getElem? (i := 21) rfl))) (ty := .int) (by decide)
  have c93 : Fld Z h81 b81 "com/example/podflow/podflow/simulation/Pickup" "time" "J" (.long (0 : Int64)) := D81 (Or.inr (hw _ (List.mem_of_getElem? (i := 23) rfl))) (ty := .long) (by decide)
  have c94 : Fld Z h81 b81 "com/example/podflow/podflow/simulation/Pickup" "emptyFrom" "I" (.int (0 : Int32)) := D81 (Or.inr (hw _ (List.mem_of_getElem? (i := 25) rfl))) (ty := .int) (by decide)
  have c95 : Fld Z h81 b81 "com/example/podflow/podflow/simulation/Pickup" "emptyTo" "I" (.int (0 : Int32)) := D81 (Or.inr (hw _ (List.mem_of_getElem? (i := 27) rfl))) (ty := .int) (by decide)
  obtain ⟨_, _, ⟨T96, L96, k96, n96⟩, -, X96, ⟨Lc96, hQ96, l96, y96, z96⟩, st96⟩ := X81.specialBack hx (y := (⟨"com/example/podflow/podflow/simulation/Pickup", "<init>", "(IJII)V"⟩ : MethodName)) rfl hown (mvT hZ (hw _ (List.mem_of_getElem? (i := 9) rfl))) (mvT hZ (hw _ (List.mem_of_getElem? (i := 10) rfl))) (mvT hZ (hw _ (List.mem_of_getElem? (i := 11) rfl))) (by decide) (backOf (W := 1) (rm2 l Z a0 hw [] b81 (f0_v184 p3) (0 : Int64) (f0_v196 p3) (f0_v208 p3) (0 : Int32) (0 : Int64) (0 : Int32) (0 : Int32) h81 n0 c82 A81 g_b81 c92 c93 c94 c95) hZ (hw _ (List.mem_of_getElem? (i := 11) rfl)) (hw _ (List.mem_of_getElem? (i := 8) rfl)) (by decide) (by decide)) (g := (mkF m 329 #[.val (.int p1), .val (.int p2), .val (.int p3), .val (.int p4), .val (.int p5), .val (.int ((p1 &&& (3 : Int32)) - (1 : Int32))), .val (.int (f0_v14 p1)), .val (.int (f0_v23 p1)), .val (.ref b6), .val (.ref b18), .val (.ref b37), .val (.int (f0_v151 p2)), .val (.int (f0_v163 p2)), .val (.int (f0_v175 p2)), .val (.int (f0_v184 p3)), .val (.int (f0_v196 p3)), .val (.int (f0_v208 p3)), .val (.int (f0_v217 p4)), .val (.int (f0_v229 p4)), .val (.int (f0_v241 p4)), .val (.int (f0_v251 p5)), .val (.int (f0_v261 p5)), .val (.int (f0_s0_274 p5)), .val (.int (f0_s0_287 p5)), .val (.int (f0_s0_300 p5)), .val (.ref b60), .unset, .unset, .unset, .unset, .unset, .unset, .unset, .unset] [(.int (f0_v208 p3)), (.int (f0_v196 p3)), (.long (0 : Int64)), (.int (f0_v184 p3)), (.ref b81), (.ref b81)])) rfl (by rw [hml]; rfl) (Steps.refl _) (a := b81) (argsL := [(.int (f0_v184 p3)), (.long (0 : Int64)), (.int (f0_v196 p3)), (.int (f0_v208 p3))]) (rest := [(.ref b81)]) (lenOf pd_5 rfl) rfl (by show 2 * 0 + _ ≤ _; exact Nat.le_of_eq rfl) (hb hby at_329) (fun _ _ => ⟨rfl, e81, (by decide : 5 + 0 ≤ _), (by decide : 17 + 0 ≤ _)⟩)
  dsimp only [Pt.U, Pt.locs, Pt.cells, Pt.slots] at X96 l96 y96 z96 st96 hQ96
  subst l96 y96 z96
  obtain ⟨rfl, N96q, K96, o96_0, o96_1, o96_2, o96_3⟩ := hQ96
  have N96 := Fr.app N70 N96q
  have c97 : n0 ≤ T96.heap.size := Nat.le_trans c82 K96.1
  have c98 : IAr Z T96.heap b6 .int (3 : Int32) (f0_v42 p1) := c83.keep K96 (ninS ne_b6_b81 nin0)
  have c99 : IAr Z T96.heap b18 .int (3 : Int32) (f0_v86 p1) := c84.keep K96 (ninS ne_b18_b81 nin0)
  have c100 : Exa Z T96.heap b37 "[Z" := c85.keep K96
  have c101 : IAr Z T96.heap b37 .boolean (3 : Int32) (f0_v142 p1) := c86.keep K96 (ninS ne_b37_b81 nin0)
  have c102 : Exa Z T96.heap b60 "com/example/podflow/podflow/simulation/Pickup" := c87.keep K96
  have c103 : Fld Z T96.heap b60 "com/example/podflow/podflow/simulation/Pickup" "vehicle" "I" (.int (f2_o0 (f0_v151 p2) (0 : Int64) (f0_v163 p2) (f0_v175 p2) (0 : Int32) (0 : Int64) (0 : Int32) (0 : Int32))) := c88.keep K96 (ninS ne_b60_b81 nin0)
  have c104 : Fld Z T96.heap b60 "com/example/podflow/podflow/simulation/Pickup" "time" "J" (.long (f2_o1 (f0_v151 p2) (0 : Int64) (f0_v163 p2) (f0_v175 p2) (0 : Int32) (0 : Int64) (0 : Int32) (0 : Int32))) := c89.keep K96 (ninS ne_b60_b81 nin0)
  have c105 : Fld Z T96.heap b60 "com/example/podflow/podflow/simulation/Pickup" "emptyFrom" "I" (.int (f2_o2 (f0_v151 p2) (0 : Int64) (f0_v163 p2) (f0_v175 p2) (0 : Int32) (0 : Int64) (0 : Int32) (0 : Int32))) := c90.keep K96 (ninS ne_b60_b81 nin0)
  have c106 : Fld Z T96.heap b60 "com/example/podflow/podflow/simulation/Pickup" "emptyTo" "I" (.int (f2_o3 (f0_v151 p2) (0 : Int64) (f0_v163 p2) (f0_v175 p2) (0 : Int32) (0 : Int64) (0 : Int32) (0 : Int32))) := c91.keep K96 (ninS ne_b60_b81 nin0)
  have c107 : Exa Z T96.heap b81 "com/example/podflow/podflow/simulation/Pickup" := A81.keep K96
  have c108 : Fld Z T96.heap b81 "com/example/podflow/podflow/simulation/Pickup" "vehicle" "I" (.int (f2_o0 (f0_v184 p3) (0 : Int64) (f0_v196 p3) (f0_v208 p3) (0 : Int32) (0 : Int64) (0 : Int32) (0 : Int32))) := o96_0
  have c109 : Fld Z T96.heap b81 "com/example/podflow/podflow/simulation/Pickup" "time" "J" (.long (f2_o1 (f0_v184 p3) (0 : Int64) (f0_v196 p3) (f0_v208 p3) (0 : Int32) (0 : Int64) (0 : Int32) (0 : Int32))) := o96_1
  have c110 : Fld Z T96.heap b81 "com/example/podflow/podflow/simulation/Pickup" "emptyFrom" "I" (.int (f2_o2 (f0_v184 p3) (0 : Int64) (f0_v196 p3) (f0_v208 p3) (0 : Int32) (0 : Int64) (0 : Int32) (0 : Int32))) := o96_2
  have c111 : Fld Z T96.heap b81 "com/example/podflow/podflow/simulation/Pickup" "emptyTo" "I" (.int (f2_o3 (f0_v184 p3) (0 : Int64) (f0_v196 p3) (f0_v208 p3) (0 : Int32) (0 : Int64) (0 : Int32) (0 : Int32))) := o96_3
  obtain ⟨T112, h112, X112, e112, E112, A112, D112, -, st112⟩ := newO X96 hx hZ hown (hw _ (List.mem_of_getElem? (i := 6) rfl)) (hw _ (List.mem_of_getElem? (i := 7) rfl)) (hw _ (List.mem_of_getElem? (i := 8) rfl)) rfl (g := (mkF m 334 #[.val (.int p1), .val (.int p2), .val (.int p3), .val (.int p4), .val (.int p5), .val (.int ((p1 &&& (3 : Int32)) - (1 : Int32))), .val (.int (f0_v14 p1)), .val (.int (f0_v23 p1)), .val (.ref b6), .val (.ref b18), .val (.ref b37), .val (.int (f0_v151 p2)), .val (.int (f0_v163 p2)), .val (.int (f0_v175 p2)), .val (.int (f0_v184 p3)), .val (.int (f0_v196 p3)), .val (.int (f0_v208 p3)), .val (.int (f0_v217 p4)), .val (.int (f0_v229 p4)), .val (.int (f0_v241 p4)), .val (.int (f0_v251 p5)), .val (.int (f0_v261 p5)), .val (.int (f0_s0_274 p5)), .val (.int (f0_s0_287 p5)), .val (.int (f0_s0_300 p5)), .val (.ref b60), .val (.ref b81), .unset, .unset, .unset, .unset, .unset, .unset, .unset] [])) rfl (hb hby at_334) (by decide) (by decide)
  obtain ⟨b112, g112⟩ : ∃ z, z = T96.heap.size := ⟨_, rfl⟩
  rw [← g112] at A112 D112 st112
  have ne_b6_b112 : b6 ≠ b112 := Nat.ne_of_lt (Nat.lt_of_lt_of_le c98.lt (Nat.le_of_eq g112.symm))
  have ne_b18_b112 : b18 ≠ b112 := Nat.ne_of_lt (Nat.lt_of_lt_of_le c99.lt (Nat.le_of_eq g112.symm))
  have ne_b37_b112 : b37 ≠ b112 := Nat.ne_of_lt (Nat.lt_of_lt_of_le c100.lt (Nat.le_of_eq g112.symm))
  have ne_b60_b112 : b60 ≠ b112 := Nat.ne_of_lt (Nat.lt_of_lt_of_le c102.lt (Nat.le_of_eq g112.symm))
  have ne_b81_b112 : b81 ≠ b112 := Nat.ne_of_lt (Nat.lt_of_lt_of_le c107.lt (Nat.le_of_eq g112.symm))
  have g_b112 : n0 ≤ b112 := Nat.le_trans c97 (Nat.le_of_eq g112.symm)
  have c113 : n0 ≤ h112.size := Nat.le_trans c97 E112.1
  have c114 : IAr Z h112 b6 .int (3 : Int32) (f0_v42 p1) := c98.ext E112
  have c115 : IAr Z h112 b18 .int (3 : Int32) (f0_v86 p1) := c99.ext E112
  have c116 : Exa Z h112 b37 "[Z" := c100.ext E112
  have c117 : IAr Z h112 b37 .boolean (3 : Int32) (f0_v142 p1) := c101.ext E112
  have c118 : Exa Z h112 b60 "com/example/podflow/podflow/simulation/Pickup" := c102.ext E112
  have c119 : Fld Z h112 b60 "com/example/podflow/podflow/simulation/Pickup" "vehicle" "I" (.int (f2_o0 (f0_v151 p2) (0 : Int64) (f0_v163 p2) (f0_v175 p2) (0 : Int32) (0 : Int64) (0 : Int32) (0 : Int32))) := c103.ext E112
  have c120 : Fld Z h112 b60 "com/example/podflow/podflow/simulation/Pickup" "time" "J" (.long (f2_o1 (f0_v151 p2) (0 : Int64) (f0_v163 p2) (f0_v175 p2) (0 : Int32) (0 : Int64) (0 : Int32) (0 : Int32))) := c104.ext E112
  have c121 : Fld Z h112 b60 "com/example/podflow/podflow/simulation/Pickup" "emptyFrom" "I" (.int (f2_o2 (f0_v151 p2) (0 : Int64) (f0_v163 p2) (f0_v175 p2) (0 : Int32) (0 : Int64) (0 : Int32) (0 : Int32))) := c105.ext E112
  have c122 : Fld Z h112 b60 "com/example/podflow/podflow/simulation/Pickup" "emptyTo" "I" (.int (f2_o3 (f0_v151 p2) (0 : Int64) (f0_v163 p2) (f0_v175 p2) (0 : Int32) (0 : Int64) (0 : Int32) (0 : Int32))) := c106.ext E112
  have c123 : Exa Z h112 b81 "com/example/podflow/podflow/simulation/Pickup" := c107.ext E112
  have c124 : Fld Z h112 b81 "com/example/podflow/podflow/simulation/Pickup" "vehicle" "I" (.int (f2_o0 (f0_v184 p3) (0 : Int64) (f0_v196 p3) (f0_v208 p3) (0 : Int32) (0 : Int64) (0 : Int32) (0 : Int32))) := c108.ext E112
  have c125 : Fld Z h112 b81 "com/example/podflow/podflow/simulation/Pickup" "time" "J" (.long (f2_o1 (f0_v184 p3) (0 : Int64) (f0_v196 p3) (f0_v208 p3) (0 : Int32) (0 : Int64) (0 : Int32) (0 : Int32))) := c109.ext E112
  have c126 : Fld Z h112 b81 "com/example/podflow/podflow/simulation/Pickup" "emptyFrom" "I" (.int (f2_o2 (f0_v184 p3) (0 : Int64) (f0_v196 p3) (f0_v208 p3) (0 : Int32) (0 : Int64) (0 : Int32) (0 : Int32))) := c110.ext E112
  have c127 : Fld Z h112 b81 "com/example/podflow/podflow/simulation/Pickup" "emptyTo" "I" (.int (f2_o3 (f0_v184 p3) (0 : Int64) (f0_v196 p3) (f0_v208 p3) (0 : Int32) (0 : Int64) (0 : Int32) (0 : Int32))) := c111.ext E112
  have c128 : Fld Z h112 b112 "com/example/podflow/podflow/simulation/Pickup" "vehicle" "I" (.int (0 : Int32)) := D112 (Or.inr (hw _ (List.mem_of_getElem? (i := 21) rfl))) (ty := .int) (by decide)
  have c129 : Fld Z h112 b112 "com/example/podflow/podflow/simulation/Pickup" "time" "J" (.long (0 : Int64)) := D112 (Or.inr (hw _ (List.mem_of_getElem? (i := 23) rfl))) (ty := .long) (by decide)
  have c130 : Fld Z h112 b112 "com/example/podflow/podflow/simulation/Pickup" "emptyFrom" "I" (.int (0 : Int32)) := D112 (Or.inr (hw _ (List.mem_of_getElem? (i := 25) rfl))) (ty := .int) (by decide)
  have c131 : Fld Z h112 b112 "com/example/podflow/podflow/simulation/Pickup" "emptyTo" "I" (.int (0 : Int32)) := D112 (Or.inr (hw _ (List.mem_of_getElem? (i := 27) rfl))) (ty := .int) (by decide)
  obtain ⟨_, _, ⟨T132, L132, k132, n132⟩, -, X132, ⟨Lc132, hQ132, l132, y132, z132⟩, st132⟩ := X112.specialBack hx (y := (⟨"com/example/podflow/podflow/simulation/Pickup", "<init>", "(IJII)V"⟩ : MethodName)) rfl hown (mvT hZ (hw _ (List.mem_of_getElem? (i := 9) rfl))) (mvT hZ (hw _ (List.mem_of_getElem? (i := 10) rfl))) (mvT hZ (hw _ (List.mem_of_getElem? (i := 11) rfl))) (by decide) (backOf (W := 1) (rm2 l Z a0 hw [] b112 (f0_v217 p4) (0 : Int64) (f0_v229 p4) (f0_v241 p4) (0 : Int32) (0 : Int64) (0 : Int32) (0 : Int32) h112 n0 c113 A112 g_b112 c128 c129 c130 c131) hZ (hw _ (List.mem_of_getElem? (i := 11) rfl)) (hw _ (List.mem_of_getElem? (i := 8) rfl)) (by decide) (by decide)) (g := (mkF m 345 #[.val (.int p1), .val (.int p2), .val (.int p3), .val (.int p4), .val (.int p5), .val (.int ((p1 &&& (3 : Int32)) - (1 : Int32))), .val (.int (f0_v14 p1)), .val (.int (f0_v23 p1)), .val (.ref b6), .val (.ref b18), .val (.ref b37), .val (.int (f0_v151 p2)), .val (.int (f0_v163 p2)), .val (.int (f0_v175 p2)), .val (.int (f0_v184 p3)), .val (.int (f0_v196 p3)), .val (.int (f0_v208 p3)), .val (.int (f0_v217 p4)), .val (.int (f0_v229 p4)), .val (.int (f0_v241 p4)), .val (.int (f0_v251 p5)), .val (.int (f0_v261 p5)), .val (.int (f0_s0_274 p5)), .val (.int (f0_s0_287 p5)), .val (.int (f0_s0_300 p5)), .val (.ref b60), .val (.ref b81), .unset, .unset, .unset, .unset, .unset, .unset, .unset] [(.int (f0_v241 p4)), (.int (f0_v229 p4)), (.long (0 : Int64)), (.int (f0_v217 p4)), (.ref b112), (.ref b112)])) rfl (by rw [hml]; rfl) (Steps.refl _) (a := b112) (argsL := [(.int (f0_v217 p4)), (.long (0 : Int64)), (.int (f0_v229 p4)), (.int (f0_v241 p4))]) (rest := [(.ref b112)]) (lenOf pd_5 rfl) rfl (by show 2 * 0 + _ ≤ _; exact Nat.le_of_eq rfl) (hb hby at_345) (fun _ _ => ⟨rfl, e112, (by decide : 6 + 0 ≤ _), (by decide : 21 + 0 ≤ _)⟩)
  dsimp only [Pt.U, Pt.locs, Pt.cells, Pt.slots] at X132 l132 y132 z132 st132 hQ132
  subst l132 y132 z132
  obtain ⟨rfl, N132q, K132, o132_0, o132_1, o132_2, o132_3⟩ := hQ132
  have N132 := Fr.app N96 N132q
  have c133 : n0 ≤ T132.heap.size := Nat.le_trans c113 K132.1
  have c134 : IAr Z T132.heap b6 .int (3 : Int32) (f0_v42 p1) := c114.keep K132 (ninS ne_b6_b112 nin0)
  have c135 : IAr Z T132.heap b18 .int (3 : Int32) (f0_v86 p1) := c115.keep K132 (ninS ne_b18_b112 nin0)
  have c136 : Exa Z T132.heap b37 "[Z" := c116.keep K132
  have c137 : IAr Z T132.heap b37 .boolean (3 : Int32) (f0_v142 p1) := c117.keep K132 (ninS ne_b37_b112 nin0)
  have c138 : Exa Z T132.heap b60 "com/example/podflow/podflow/simulation/Pickup" := c118.keep K132
  have c139 : Fld Z T132.heap b60 "com/example/podflow/podflow/simulation/Pickup" "vehicle" "I" (.int (f2_o0 (f0_v151 p2) (0 : Int64) (f0_v163 p2) (f0_v175 p2) (0 : Int32) (0 : Int64) (0 : Int32) (0 : Int32))) := c119.keep K132 (ninS ne_b60_b112 nin0)
  have c140 : Fld Z T132.heap b60 "com/example/podflow/podflow/simulation/Pickup" "time" "J" (.long (f2_o1 (f0_v151 p2) (0 : Int64) (f0_v163 p2) (f0_v175 p2) (0 : Int32) (0 : Int64) (0 : Int32) (0 : Int32))) := c120.keep K132 (ninS ne_b60_b112 nin0)
  have c141 : Fld Z T132.heap b60 "com/example/podflow/podflow/simulation/Pickup" "emptyFrom" "I" (.int (f2_o2 (f0_v151 p2) (0 : Int64) (f0_v163 p2) (f0_v175 p2) (0 : Int32) (0 : Int64) (0 : Int32) (0 : Int32))) := c121.keep K132 (ninS ne_b60_b112 nin0)
  have c142 : Fld Z T132.heap b60 "com/example/podflow/podflow/simulation/Pickup" "emptyTo" "I" (.int (f2_o3 (f0_v151 p2) (0 : Int64) (f0_v163 p2) (f0_v175 p2) (0 : Int32) (0 : Int64) (0 : Int32) (0 : Int32))) := c122.keep K132 (ninS ne_b60_b112 nin0)
  have c143 : Exa Z T132.heap b81 "com/example/podflow/podflow/simulation/Pickup" := c123.keep K132
  have c144 : Fld Z T132.heap b81 "com/example/podflow/podflow/simulation/Pickup" "vehicle" "I" (.int (f2_o0 (f0_v184 p3) (0 : Int64) (f0_v196 p3) (f0_v208 p3) (0 : Int32) (0 : Int64) (0 : Int32) (0 : Int32))) := c124.keep K132 (ninS ne_b81_b112 nin0)
  have c145 : Fld Z T132.heap b81 "com/example/podflow/podflow/simulation/Pickup" "time" "J" (.long (f2_o1 (f0_v184 p3) (0 : Int64) (f0_v196 p3) (f0_v208 p3) (0 : Int32) (0 : Int64) (0 : Int32) (0 : Int32))) := c125.keep K132 (ninS ne_b81_b112 nin0)
  have c146 : Fld Z T132.heap b81 "com/example/podflow/podflow/simulation/Pickup" "emptyFrom" "I" (.int (f2_o2 (f0_v184 p3) (0 : Int64) (f0_v196 p3) (f0_v208 p3) (0 : Int32) (0 : Int64) (0 : Int32) (0 : Int32))) := c126.keep K132 (ninS ne_b81_b112 nin0)
  have c147 : Fld Z T132.heap b81 "com/example/podflow/podflow/simulation/Pickup" "emptyTo" "I" (.int (f2_o3 (f0_v184 p3) (0 : Int64) (f0_v196 p3) (f0_v208 p3) (0 : Int32) (0 : Int64) (0 : Int32) (0 : Int32))) := c127.keep K132 (ninS ne_b81_b112 nin0)
  have c148 : Exa Z T132.heap b112 "com/example/podflow/podflow/simulation/Pickup" := A112.keep K132
  have c149 : Fld Z T132.heap b112 "com/example/podflow/podflow/simulation/Pickup" "vehicle" "I" (.int (f2_o0 (f0_v217 p4) (0 : Int64) (f0_v229 p4) (f0_v241 p4) (0 : Int32) (0 : Int64) (0 : Int32) (0 : Int32))) := o132_0
  have c150 : Fld Z T132.heap b112 "com/example/podflow/podflow/simulation/Pickup" "time" "J" (.long (f2_o1 (f0_v217 p4) (0 : Int64) (f0_v229 p4) (f0_v241 p4) (0 : Int32) (0 : Int64) (0 : Int32) (0 : Int32))) := o132_1
  have c151 : Fld Z T132.heap b112 "com/example/podflow/podflow/simulation/Pickup" "emptyFrom" "I" (.int (f2_o2 (f0_v217 p4) (0 : Int64) (f0_v229 p4) (f0_v241 p4) (0 : Int32) (0 : Int64) (0 : Int32) (0 : Int32))) := o132_2
  have c152 : Fld Z T132.heap b112 "com/example/podflow/podflow/simulation/Pickup" "emptyTo" "I" (.int (f2_o3 (f0_v217 p4) (0 : Int64) (f0_v229 p4) (f0_v241 p4) (0 : Int32) (0 : Int64) (0 : Int32) (0 : Int32))) := o132_3
  obtain ⟨T153, h153, X153, e153, E153, A153, D153, -, st153⟩ := newO X132 hx hZ hown (hw _ (List.mem_of_getElem? (i := 28) rfl)) (hw _ (List.mem_of_getElem? (i := 29) rfl)) (hw _ (List.mem_of_getElem? (i := 30) rfl)) rfl (g := (mkF m 350 #[.val (.int p1), .val (.int p2), .val (.int p3), .val (.int p4), .val (.int p5), .val (.int ((p1 &&& (3 : Int32)) - (1 : Int32))), .val (.int (f0_v14 p1)), .val (.int (f0_v23 p1)), .val (.ref b6), .val (.ref b18), .val (.ref b37), .val (.int (f0_v151 p2)), .val (.int (f0_v163 p2)), .val (.int (f0_v175 p2)), .val (.int (f0_v184 p3)), .val (.int (f0_v196 p3)), .val (.int (f0_v208 p3)), .val (.int (f0_v217 p4)), .val (.int (f0_v229 p4)), .val (.int (f0_v241 p4)), .val (.int (f0_v251 p5)), .val (.int (f0_v261 p5)), .val (.int (f0_s0_274 p5)), .val (.int (f0_s0_287 p5)), .val (.int (f0_s0_300 p5)), .val (.ref b60), .val (.ref b81), .val (.ref b112), .unset, .unset, .unset, .unset, .unset, .unset] [])) rfl (hb hby at_350) (by decide) (by decide)
  obtain ⟨b153, g153⟩ : ∃ z, z = T132.heap.size := ⟨_, rfl⟩
  rw [← g153] at A153 D153 st153
  have ne_b6_b153 : b6 ≠ b153 := Nat.ne_of_lt (Nat.lt_of_lt_of_le c134.lt (Nat.le_of_eq g153.symm))
  have ne_b18_b153 : b18 ≠ b153 := Nat.ne_of_lt (Nat.lt_of_lt_of_le c135.lt (Nat.le_of_eq g153.symm))
  have ne_b37_b153 : b37 ≠ b153 := Nat.ne_of_lt (Nat.lt_of_lt_of_le c136.lt (Nat.le_of_eq g153.symm))
  have ne_b60_b153 : b60 ≠ b153 := Nat.ne_of_lt (Nat.lt_of_lt_of_le c138.lt (Nat.le_of_eq g153.symm))
  have ne_b81_b153 : b81 ≠ b153 := Nat.ne_of_lt (Nat.lt_of_lt_of_le c143.lt (Nat.le_of_eq g153.symm))
  have ne_b112_b153 : b112 ≠ b153 := Nat.ne_of_lt (Nat.lt_of_lt_of_le c148.lt (Nat.le_of_eq g153.symm))
  have g_b153 : n0 ≤ b153 := Nat.le_trans c133 (Nat.le_of_eq g153.symm)
  have c154 : n0 ≤ h153.size := Nat.le_trans c133 E153.1
  have c155 : IAr Z h153 b6 .int (3 : Int32) (f0_v42 p1) := c134.ext E153
  have c156 : IAr Z h153 b18 .int (3 : Int32) (f0_v86 p1) := c135.ext E153
  have c157 : Exa Z h153 b37 "[Z" := c136.ext E153
  have c158 : IAr Z h153 b37 .boolean (3 : Int32) (f0_v142 p1) := c137.ext E153
  have c159 : Exa Z h153 b60 "com/example/podflow/podflow/simulation/Pickup" := c138.ext E153
  have c160 : Fld Z h153 b60 "com/example/podflow/podflow/simulation/Pickup" "vehicle" "I" (.int (f2_o0 (f0_v151 p2) (0 : Int64) (f0_v163 p2) (f0_v175 p2) (0 : Int32) (0 : Int64) (0 : Int32) (0 : Int32))) := c139.ext E153
  have c161 : Fld Z h153 b60 "com/example/podflow/podflow/simulation/Pickup" "time" "J" (.long (f2_o1 (f0_v151 p2) (0 : Int64) (f0_v163 p2) (f0_v175 p2) (0 : Int32) (0 : Int64) (0 : Int32) (0 : Int32))) := c140.ext E153
  have c162 : Fld Z h153 b60 "com/example/podflow/podflow/simulation/Pickup" "emptyFrom" "I" (.int (f2_o2 (f0_v151 p2) (0 : Int64) (f0_v163 p2) (f0_v175 p2) (0 : Int32) (0 : Int64) (0 : Int32) (0 : Int32))) := c141.ext E153
  have c163 : Fld Z h153 b60 "com/example/podflow/podflow/simulation/Pickup" "emptyTo" "I" (.int (f2_o3 (f0_v151 p2) (0 : Int64) (f0_v163 p2) (f0_v175 p2) (0 : Int32) (0 : Int64) (0 : Int32) (0 : Int32))) := c142.ext E153
  have c164 : Exa Z h153 b81 "com/example/podflow/podflow/simulation/Pickup" := c143.ext E153
  have c165 : Fld Z h153 b81 "com/example/podflow/podflow/simulation/Pickup" "vehicle" "I" (.int (f2_o0 (f0_v184 p3) (0 : Int64) (f0_v196 p3) (f0_v208 p3) (0 : Int32) (0 : Int64) (0 : Int32) (0 : Int32))) := c144.ext E153
  have c166 : Fld Z h153 b81 "com/example/podflow/podflow/simulation/Pickup" "time" "J" (.long (f2_o1 (f0_v184 p3) (0 : Int64) (f0_v196 p3) (f0_v208 p3) (0 : Int32) (0 : Int64) (0 : Int32) (0 : Int32))) := c145.ext E153
  have c167 : Fld Z h153 b81 "com/example/podflow/podflow/simulation/Pickup" "emptyFrom" "I" (.int (f2_o2 (f0_v184 p3) (0 : Int64) (f0_v196 p3) (f0_v208 p3) (0 : Int32) (0 : Int64) (0 : Int32) (0 : Int32))) := c146.ext E153
  have c168 : Fld Z h153 b81 "com/example/podflow/podflow/simulation/Pickup" "emptyTo" "I" (.int (f2_o3 (f0_v184 p3) (0 : Int64) (f0_v196 p3) (f0_v208 p3) (0 : Int32) (0 : Int64) (0 : Int32) (0 : Int32))) := c147.ext E153
  have c169 : Exa Z h153 b112 "com/example/podflow/podflow/simulation/Pickup" := c148.ext E153
  have c170 : Fld Z h153 b112 "com/example/podflow/podflow/simulation/Pickup" "vehicle" "I" (.int (f2_o0 (f0_v217 p4) (0 : Int64) (f0_v229 p4) (f0_v241 p4) (0 : Int32) (0 : Int64) (0 : Int32) (0 : Int32))) := c149.ext E153
  have c171 : Fld Z h153 b112 "com/example/podflow/podflow/simulation/Pickup" "time" "J" (.long (f2_o1 (f0_v217 p4) (0 : Int64) (f0_v229 p4) (f0_v241 p4) (0 : Int32) (0 : Int64) (0 : Int32) (0 : Int32))) := c150.ext E153
  have c172 : Fld Z h153 b112 "com/example/podflow/podflow/simulation/Pickup" "emptyFrom" "I" (.int (f2_o2 (f0_v217 p4) (0 : Int64) (f0_v229 p4) (f0_v241 p4) (0 : Int32) (0 : Int64) (0 : Int32) (0 : Int32))) := c151.ext E153
  have c173 : Fld Z h153 b112 "com/example/podflow/podflow/simulation/Pickup" "emptyTo" "I" (.int (f2_o3 (f0_v217 p4) (0 : Int64) (f0_v229 p4) (f0_v241 p4) (0 : Int32) (0 : Int64) (0 : Int32) (0 : Int32))) := c152.ext E153
  have c174 : Fld Z h153 b153 "com/example/podflow/podflow/simulation/Ballot" "idleAt" "[I" .null := D153 (Or.inr (hw _ (List.mem_of_getElem? (i := 36) rfl))) (ty := (.array .int)) (by decide)
  have c175 : Fld Z h153 b153 "com/example/podflow/podflow/simulation/Ballot" "idleCount" "[I" .null := D153 (Or.inr (hw _ (List.mem_of_getElem? (i := 38) rfl))) (ty := (.array .int)) (by decide)
  have c176 : Fld Z h153 b153 "com/example/podflow/podflow/simulation/Ballot" "open" "[Z" .null := D153 (Or.inr (hw _ (List.mem_of_getElem? (i := 49) rfl))) (ty := (.array .boolean)) (by decide)
  have c177 : Fld Z h153 b153 "com/example/podflow/podflow/simulation/Ballot" "served" "[I" .null := D153 (Or.inr (hw _ (List.mem_of_getElem? (i := 51) rfl))) (ty := (.array .int)) (by decide)
  have c178 : Fld Z h153 b153 "com/example/podflow/podflow/simulation/Ballot" "servedHome" "[I" .null := D153 (Or.inr (hw _ (List.mem_of_getElem? (i := 53) rfl))) (ty := (.array .int)) (by decide)
  have c179 : Fld Z h153 b153 "com/example/podflow/podflow/simulation/Ballot" "ownLeaving" "[I" .null := D153 (Or.inr (hw _ (List.mem_of_getElem? (i := 55) rfl))) (ty := (.array .int)) (by decide)
  have c180 : Fld Z h153 b153 "com/example/podflow/podflow/simulation/Ballot" "anyLeaving" "[I" .null := D153 (Or.inr (hw _ (List.mem_of_getElem? (i := 57) rfl))) (ty := (.array .int)) (by decide)
  have c181 : Fld Z h153 b153 "com/example/podflow/podflow/simulation/Ballot" "counted" "[Z" .null := D153 (Or.inr (hw _ (List.mem_of_getElem? (i := 59) rfl))) (ty := (.array .boolean)) (by decide)
  have c182 : Fld Z h153 b153 "com/example/podflow/podflow/simulation/Ballot" "unsettled" "I" (.int (0 : Int32)) := D153 (Or.inl (hw _ (List.mem_of_getElem? (i := 65) rfl))) (ty := .int) (by decide)
  obtain ⟨_, _, ⟨T183, L183, k183, n183⟩, -, X183, ⟨Lc183, hQ183, l183, y183, z183⟩, st183⟩ := X153.specialBack hx (y := (⟨"com/example/podflow/podflow/simulation/Ballot", "<init>", "([I[I[Z)V"⟩ : MethodName)) rfl hown (mvT hZ (hw _ (List.mem_of_getElem? (i := 31) rfl))) (mvT hZ (hw _ (List.mem_of_getElem? (i := 32) rfl))) (mvT hZ (hw _ (List.mem_of_getElem? (i := 33) rfl))) (by decide) (backOf (W := 1) (rm5 l Z a0 hw [] b153 b6 b18 b37 (0 : Int32) (3 : Int32) (f0_v42 p1) (3 : Int32) (f0_v86 p1) (3 : Int32) (f0_v142 p1) h153 n0 c154 A153 g_b153 c174 c175 c176 c177 c178 c179 c180 c181 c182 c155 c156 c158 c157 (Ne.symm ne_b6_b153) (Ne.symm ne_b18_b153) (Ne.symm ne_b37_b153) rfl rfl rfl (own_fit p1)) hZ (hw _ (List.mem_of_getElem? (i := 33) rfl)) (hw _ (List.mem_of_getElem? (i := 30) rfl)) (by decide) (by decide)) (g := (mkF m 360 #[.val (.int p1), .val (.int p2), .val (.int p3), .val (.int p4), .val (.int p5), .val (.int ((p1 &&& (3 : Int32)) - (1 : Int32))), .val (.int (f0_v14 p1)), .val (.int (f0_v23 p1)), .val (.ref b6), .val (.ref b18), .val (.ref b37), .val (.int (f0_v151 p2)), .val (.int (f0_v163 p2)), .val (.int (f0_v175 p2)), .val (.int (f0_v184 p3)), .val (.int (f0_v196 p3)), .val (.int (f0_v208 p3)), .val (.int (f0_v217 p4)), .val (.int (f0_v229 p4)), .val (.int (f0_v241 p4)), .val (.int (f0_v251 p5)), .val (.int (f0_v261 p5)), .val (.int (f0_s0_274 p5)), .val (.int (f0_s0_287 p5)), .val (.int (f0_s0_300 p5)), .val (.ref b60), .val (.ref b81), .val (.ref b112), .unset, .unset, .unset, .unset, .unset, .unset] [(.ref b37), (.ref b18), (.ref b6), (.ref b153), (.ref b153)])) rfl (by rw [hml]; rfl) (Steps.refl _) (a := b153) (argsL := [(.ref b6), (.ref b18), (.ref b37)]) (rest := [(.ref b153)]) (lenOf pd_6 rfl) rfl (by show 2 * 0 + _ ≤ _; exact Nat.le_of_eq rfl) (hb hby at_360) (fun _ _ => ⟨rfl, e153, (by decide : 7 + 6 ≤ _), (by decide : 30 + 18 ≤ _)⟩)
  dsimp only [Pt.U, Pt.locs, Pt.cells, Pt.slots] at X183 l183 y183 z183 st183 hQ183
  subst l183 y183 z183
  obtain ⟨r183_0, r183_1, r183_2, r183_3, r183_4, r183_5, rfl, N183q, K183, o183_0, o183_1, o183_2, zz183_0, va183_0, vf183_0, zz183_1, va183_1, vf183_1, zz183_2, va183_2, vf183_2, zz183_3, va183_3, vf183_3, zz183_4, va183_4, vf183_4, zz183_5, va183_5, vf183_5, ne_r183_0_r183_1, ne_r183_0_r183_2, ne_r183_0_r183_3, ne_r183_0_r183_4, ne_r183_0_r183_5, ne_r183_1_r183_2, ne_r183_1_r183_3, ne_r183_1_r183_4, ne_r183_1_r183_5, ne_r183_2_r183_3, ne_r183_2_r183_4, ne_r183_2_r183_5, ne_r183_3_r183_4, ne_r183_3_r183_5, ne_r183_4_r183_5⟩ := hQ183
  have N183 := Fr.app N132 N183q
  have ne_b6_r183_0 : b6 ≠ r183_0 := Nat.ne_of_lt (Nat.lt_of_lt_of_le c155.lt zz183_0)
  have ne_b18_r183_0 : b18 ≠ r183_0 := Nat.ne_of_lt (Nat.lt_of_lt_of_le c156.lt zz183_0)
  have ne_b37_r183_0 : b37 ≠ r183_0 := Nat.ne_of_lt (Nat.lt_of_lt_of_le c157.lt zz183_0)
  have ne_b60_r183_0 : b60 ≠ r183_0 := Nat.ne_of_lt (Nat.lt_of_lt_of_le c159.lt zz183_0)
  have ne_b81_r183_0 : b81 ≠ r183_0 := Nat.ne_of_lt (Nat.lt_of_lt_of_le c164.lt zz183_0)
  have ne_b112_r183_0 : b112 ≠ r183_0 := Nat.ne_of_lt (Nat.lt_of_lt_of_le c169.lt zz183_0)
  have ne_b153_r183_0 : b153 ≠ r183_0 := Nat.ne_of_lt (Nat.lt_of_lt_of_le A153.lt zz183_0)
  have g_r183_0 : n0 ≤ r183_0 := Nat.le_trans c154 zz183_0
  have ne_b6_r183_1 : b6 ≠ r183_1 := Nat.ne_of_lt (Nat.lt_of_lt_of_le c155.lt zz183_1)
  have ne_b18_r183_1 : b18 ≠ r183_1 := Nat.ne_of_lt (Nat.lt_of_lt_of_le c156.lt zz183_1)
  have ne_b37_r183_1 : b37 ≠ r183_1 := Nat.ne_of_lt (Nat.lt_of_lt_of_le c157.lt zz183_1)
  have ne_b60_r183_1 : b60 ≠ r183_1 := Nat.ne_of_lt (Nat.lt_of_lt_of_le c159.lt zz183_1)
  have ne_b81_r183_1 : b81 ≠ r183_1 := Nat.ne_of_lt (Nat.lt_of_lt_of_le c164.lt zz183_1)
  have ne_b112_r183_1 : b112 ≠ r183_1 := Nat.ne_of_lt (Nat.lt_of_lt_of_le c169.lt zz183_1)
  have ne_b153_r183_1 : b153 ≠ r183_1 := Nat.ne_of_lt (Nat.lt_of_lt_of_le A153.lt zz183_1)
  have g_r183_1 : n0 ≤ r183_1 := Nat.le_trans c154 zz183_1
  have ne_b6_r183_2 : b6 ≠ r183_2 := Nat.ne_of_lt (Nat.lt_of_lt_of_le c155.lt zz183_2)
  have ne_b18_r183_2 : b18 ≠ r183_2 := Nat.ne_of_lt (Nat.lt_of_lt_of_le c156.lt zz183_2)
  have ne_b37_r183_2 : b37 ≠ r183_2 := Nat.ne_of_lt (Nat.lt_of_lt_of_le c157.lt zz183_2)
  have ne_b60_r183_2 : b60 ≠ r183_2 := Nat.ne_of_lt (Nat.lt_of_lt_of_le c159.lt zz183_2)
  have ne_b81_r183_2 : b81 ≠ r183_2 := Nat.ne_of_lt (Nat.lt_of_lt_of_le c164.lt zz183_2)
  have ne_b112_r183_2 : b112 ≠ r183_2 := Nat.ne_of_lt (Nat.lt_of_lt_of_le c169.lt zz183_2)
  have ne_b153_r183_2 : b153 ≠ r183_2 := Nat.ne_of_lt (Nat.lt_of_lt_of_le A153.lt zz183_2)
  have g_r183_2 : n0 ≤ r183_2 := Nat.le_trans c154 zz183_2
  have ne_b6_r183_3 : b6 ≠ r183_3 := Nat.ne_of_lt (Nat.lt_of_lt_of_le c155.lt zz183_3)
  have ne_b18_r183_3 : b18 ≠ r183_3 := Nat.ne_of_lt (Nat.lt_of_lt_of_le c156.lt zz183_3)
  have ne_b37_r183_3 : b37 ≠ r183_3 := Nat.ne_of_lt (Nat.lt_of_lt_of_le c157.lt zz183_3)
  have ne_b60_r183_3 : b60 ≠ r183_3 := Nat.ne_of_lt (Nat.lt_of_lt_of_le c159.lt zz183_3)
  have ne_b81_r183_3 : b81 ≠ r183_3 := Nat.ne_of_lt (Nat.lt_of_lt_of_le c164.lt zz183_3)
  have ne_b112_r183_3 : b112 ≠ r183_3 := Nat.ne_of_lt (Nat.lt_of_lt_of_le c169.lt zz183_3)
  have ne_b153_r183_3 : b153 ≠ r183_3 := Nat.ne_of_lt (Nat.lt_of_lt_of_le A153.lt zz183_3)
  have g_r183_3 : n0 ≤ r183_3 := Nat.le_trans c154 zz183_3
  have ne_b6_r183_4 : b6 ≠ r183_4 := Nat.ne_of_lt (Nat.lt_of_lt_of_le c155.lt zz183_4)
  have ne_b18_r183_4 : b18 ≠ r183_4 := Nat.ne_of_lt (Nat.lt_of_lt_of_le c156.lt zz183_4)
  have ne_b37_r183_4 : b37 ≠ r183_4 := Nat.ne_of_lt (Nat.lt_of_lt_of_le c157.lt zz183_4)
  have ne_b60_r183_4 : b60 ≠ r183_4 := Nat.ne_of_lt (Nat.lt_of_lt_of_le c159.lt zz183_4)
  have ne_b81_r183_4 : b81 ≠ r183_4 := Nat.ne_of_lt (Nat.lt_of_lt_of_le c164.lt zz183_4)
  have ne_b112_r183_4 : b112 ≠ r183_4 := Nat.ne_of_lt (Nat.lt_of_lt_of_le c169.lt zz183_4)
  have ne_b153_r183_4 : b153 ≠ r183_4 := Nat.ne_of_lt (Nat.lt_of_lt_of_le A153.lt zz183_4)
  have g_r183_4 : n0 ≤ r183_4 := Nat.le_trans c154 zz183_4
  have ne_b6_r183_5 : b6 ≠ r183_5 := Nat.ne_of_lt (Nat.lt_of_lt_of_le c155.lt zz183_5)
  have ne_b18_r183_5 : b18 ≠ r183_5 := Nat.ne_of_lt (Nat.lt_of_lt_of_le c156.lt zz183_5)
  have ne_b37_r183_5 : b37 ≠ r183_5 := Nat.ne_of_lt (Nat.lt_of_lt_of_le c157.lt zz183_5)
  have ne_b60_r183_5 : b60 ≠ r183_5 := Nat.ne_of_lt (Nat.lt_of_lt_of_le c159.lt zz183_5)
  have ne_b81_r183_5 : b81 ≠ r183_5 := Nat.ne_of_lt (Nat.lt_of_lt_of_le c164.lt zz183_5)
  have ne_b112_r183_5 : b112 ≠ r183_5 := Nat.ne_of_lt (Nat.lt_of_lt_of_le c169.lt zz183_5)
  have ne_b153_r183_5 : b153 ≠ r183_5 := Nat.ne_of_lt (Nat.lt_of_lt_of_le A153.lt zz183_5)
  have g_r183_5 : n0 ≤ r183_5 := Nat.le_trans c154 zz183_5
  have c184 : n0 ≤ T183.heap.size := Nat.le_trans c154 K183.1
  have c185 : IAr Z T183.heap b6 .int (3 : Int32) (f0_v42 p1) := c155.keep K183 (ninS ne_b6_b153 nin0)
  have c186 : IAr Z T183.heap b18 .int (3 : Int32) (f0_v86 p1) := c156.keep K183 (ninS ne_b18_b153 nin0)
  have c187 : Exa Z T183.heap b37 "[Z" := c157.keep K183
  have c188 : IAr Z T183.heap b37 .boolean (3 : Int32) (f0_v142 p1) := c158.keep K183 (ninS ne_b37_b153 nin0)
  have c189 : Exa Z T183.heap b60 "com/example/podflow/podflow/simulation/Pickup" := c159.keep K183
  have c190 : Fld Z T183.heap b60 "com/example/podflow/podflow/simulation/Pickup" "vehicle" "I" (.int (f2_o0 (f0_v151 p2) (0 : Int64) (f0_v163 p2) (f0_v175 p2) (0 : Int32) (0 : Int64) (0 : Int32) (0 : Int32))) := c160.keep K183 (ninS ne_b60_b153 nin0)
  have c191 : Fld Z T183.heap b60 "com/example/podflow/podflow/simulation/Pickup" "time" "J" (.long (f2_o1 (f0_v151 p2) (0 : Int64) (f0_v163 p2) (f0_v175 p2) (0 : Int32) (0 : Int64) (0 : Int32) (0 : Int32))) := c161.keep K183 (ninS ne_b60_b153 nin0)
  have c192 : Fld Z T183.heap b60 "com/example/podflow/podflow/simulation/Pickup" "emptyFrom" "I" (.int (f2_o2 (f0_v151 p2) (0 : Int64) (f0_v163 p2) (f0_v175 p2) (0 : Int32) (0 : Int64) (0 : Int32) (0 : Int32))) := c162.keep K183 (ninS ne_b60_b153 nin0)
  have c193 : Fld Z T183.heap b60 "com/example/podflow/podflow/simulation/Pickup" "emptyTo" "I" (.int (f2_o3 (f0_v151 p2) (0 : Int64) (f0_v163 p2) (f0_v175 p2) (0 : Int32) (0 : Int64) (0 : Int32) (0 : Int32))) := c163.keep K183 (ninS ne_b60_b153 nin0)
  have c194 : Exa Z T183.heap b81 "com/example/podflow/podflow/simulation/Pickup" := c164.keep K183
  have c195 : Fld Z T183.heap b81 "com/example/podflow/podflow/simulation/Pickup" "vehicle" "I" (.int (f2_o0 (f0_v184 p3) (0 : Int64) (f0_v196 p3) (f0_v208 p3) (0 : Int32) (0 : Int64) (0 : Int32) (0 : Int32))) := c165.keep K183 (ninS ne_b81_b153 nin0)
  have c196 : Fld Z T183.heap b81 "com/example/podflow/podflow/simulation/Pickup" "time" "J" (.long (f2_o1 (f0_v184 p3) (0 : Int64) (f0_v196 p3) (f0_v208 p3) (0 : Int32) (0 : Int64) (0 : Int32) (0 : Int32))) := c166.keep K183 (ninS ne_b81_b153 nin0)
  have c197 : Fld Z T183.heap b81 "com/example/podflow/podflow/simulation/Pickup" "emptyFrom" "I" (.int (f2_o2 (f0_v184 p3) (0 : Int64) (f0_v196 p3) (f0_v208 p3) (0 : Int32) (0 : Int64) (0 : Int32) (0 : Int32))) := c167.keep K183 (ninS ne_b81_b153 nin0)
  have c198 : Fld Z T183.heap b81 "com/example/podflow/podflow/simulation/Pickup" "emptyTo" "I" (.int (f2_o3 (f0_v184 p3) (0 : Int64) (f0_v196 p3) (f0_v208 p3) (0 : Int32) (0 : Int64) (0 : Int32) (0 : Int32))) := c168.keep K183 (ninS ne_b81_b153 nin0)
  have c199 : Exa Z T183.heap b112 "com/example/podflow/podflow/simulation/Pickup" := c169.keep K183
  have c200 : Fld Z T183.heap b112 "com/example/podflow/podflow/simulation/Pickup" "vehicle" "I" (.int (f2_o0 (f0_v217 p4) (0 : Int64) (f0_v229 p4) (f0_v241 p4) (0 : Int32) (0 : Int64) (0 : Int32) (0 : Int32))) := c170.keep K183 (ninS ne_b112_b153 nin0)
  have c201 : Fld Z T183.heap b112 "com/example/podflow/podflow/simulation/Pickup" "time" "J" (.long (f2_o1 (f0_v217 p4) (0 : Int64) (f0_v229 p4) (f0_v241 p4) (0 : Int32) (0 : Int64) (0 : Int32) (0 : Int32))) := c171.keep K183 (ninS ne_b112_b153 nin0)
  have c202 : Fld Z T183.heap b112 "com/example/podflow/podflow/simulation/Pickup" "emptyFrom" "I" (.int (f2_o2 (f0_v217 p4) (0 : Int64) (f0_v229 p4) (f0_v241 p4) (0 : Int32) (0 : Int64) (0 : Int32) (0 : Int32))) := c172.keep K183 (ninS ne_b112_b153 nin0)
  have c203 : Fld Z T183.heap b112 "com/example/podflow/podflow/simulation/Pickup" "emptyTo" "I" (.int (f2_o3 (f0_v217 p4) (0 : Int64) (f0_v229 p4) (f0_v241 p4) (0 : Int32) (0 : Int64) (0 : Int32) (0 : Int32))) := c173.keep K183 (ninS ne_b112_b153 nin0)
  have c204 : Exa Z T183.heap b153 "com/example/podflow/podflow/simulation/Ballot" := A153.keep K183
  have c205 : Fld Z T183.heap b153 "com/example/podflow/podflow/simulation/Ballot" "idleAt" "[I" (.ref b6) := o183_0
  have c206 : Fld Z T183.heap b153 "com/example/podflow/podflow/simulation/Ballot" "idleCount" "[I" (.ref b18) := o183_1
  have c207 : Fld Z T183.heap b153 "com/example/podflow/podflow/simulation/Ballot" "open" "[Z" (.ref r183_0) := vf183_0
  have c208 : Fld Z T183.heap b153 "com/example/podflow/podflow/simulation/Ballot" "served" "[I" (.ref r183_1) := vf183_1
  have c209 : Fld Z T183.heap b153 "com/example/podflow/podflow/simulation/Ballot" "servedHome" "[I" (.ref r183_2) := vf183_2
  have c210 : Fld Z T183.heap b153 "com/example/podflow/podflow/simulation/Ballot" "ownLeaving" "[I" (.ref r183_3) := vf183_3
  have c211 : Fld Z T183.heap b153 "com/example/podflow/podflow/simulation/Ballot" "anyLeaving" "[I" (.ref r183_4) := vf183_4
  have c212 : Fld Z T183.heap b153 "com/example/podflow/podflow/simulation/Ballot" "counted" "[Z" (.ref r183_5) := vf183_5
  have c213 : Fld Z T183.heap b153 "com/example/podflow/podflow/simulation/Ballot" "unsettled" "I" (.int (f5_o2 (0 : Int32) (3 : Int32) (f0_v42 p1) (3 : Int32) (f0_v86 p1) (3 : Int32) (f0_v142 p1))) := o183_2
  have pre25 : ∀ t, Steps p.tables e below (T183.setTop (mkF m 367 #[.val (.int p1), .val (.int p2), .val (.int p3), .val (.int p4), .val (.int p5), .val (.int ((p1 &&& (3 : Int32)) - (1 : Int32))), .val (.int (f0_v14 p1)), .val (.int (f0_v23 p1)), .val (.ref b6), .val (.ref b18), .val (.ref b37), .val (.int (f0_v151 p2)), .val (.int (f0_v163 p2)), .val (.int (f0_v175 p2)), .val (.int (f0_v184 p3)), .val (.int (f0_v196 p3)), .val (.int (f0_v208 p3)), .val (.int (f0_v217 p4)), .val (.int (f0_v229 p4)), .val (.int (f0_v241 p4)), .val (.int (f0_v251 p5)), .val (.int (f0_v261 p5)), .val (.int (f0_s0_274 p5)), .val (.int (f0_s0_287 p5)), .val (.int (f0_s0_300 p5)), .val (.ref b60), .val (.ref b81), .val (.ref b112), .val (.ref b153), .unset, .unset, .unset, .unset, .unset] [(.int (f0_s0_274 p5))])) t → Steps p.tables e below (s₁.setTop (entryFrame m #[(.int p1), (.int p2), (.int p3), (.int p4), (.int p5)] maxLocals)) t := by
    intro t k
    refine pre22 t ?_
    refine XS.istore X54.here hx rfl (hb hby at_300) rfl (l' := #[.val (.int p1), .val (.int p2), .val (.int p3), .val (.int p4), .val (.int p5), .val (.int ((p1 &&& (3 : Int32)) - (1 : Int32))), .val (.int (f0_v14 p1)), .val (.int (f0_v23 p1)), .val (.ref b6), .val (.ref b18), .val (.ref b37), .val (.int (f0_v151 p2)), .val (.int (f0_v163 p2)), .val (.int (f0_v175 p2)), .val (.int (f0_v184 p3)), .val (.int (f0_v196 p3)), .val (.int (f0_v208 p3)), .val (.int (f0_v217 p4)), .val (.int (f0_v229 p4)), .val (.int (f0_v241 p4)), .val (.int (f0_v251 p5)), .val (.int (f0_v261 p5)), .val (.int (f0_s0_274 p5)), .val (.int (f0_s0_287 p5)), .val (.int (f0_s0_300 p5)), .unset, .unset, .unset, .unset, .unset, .unset, .unset, .unset, .unset]) rfl ?_
    show Steps p.tables e below (T54.setTop (mkF m 302 #[.val (.int p1), .val (.int p2), .val (.int p3), .val (.int p4), .val (.int p5), .val (.int ((p1 &&& (3 : Int32)) - (1 : Int32))), .val (.int (f0_v14 p1)), .val (.int (f0_v23 p1)), .val (.ref b6), .val (.ref b18), .val (.ref b37), .val (.int (f0_v151 p2)), .val (.int (f0_v163 p2)), .val (.int (f0_v175 p2)), .val (.int (f0_v184 p3)), .val (.int (f0_v196 p3)), .val (.int (f0_v208 p3)), .val (.int (f0_v217 p4)), .val (.int (f0_v229 p4)), .val (.int (f0_v241 p4)), .val (.int (f0_v251 p5)), .val (.int (f0_v261 p5)), .val (.int (f0_s0_274 p5)), .val (.int (f0_s0_287 p5)), .val (.int (f0_s0_300 p5)), .unset, .unset, .unset, .unset, .unset, .unset, .unset, .unset, .unset] [])) _
    refine st60 _ ?_
    show Steps p.tables e below (T60.setTop (mkF m 305 #[.val (.int p1), .val (.int p2), .val (.int p3), .val (.int p4), .val (.int p5), .val (.int ((p1 &&& (3 : Int32)) - (1 : Int32))), .val (.int (f0_v14 p1)), .val (.int (f0_v23 p1)), .val (.ref b6), .val (.ref b18), .val (.ref b37), .val (.int (f0_v151 p2)), .val (.int (f0_v163 p2)), .val (.int (f0_v175 p2)), .val (.int (f0_v184 p3)), .val (.int (f0_v196 p3)), .val (.int (f0_v208 p3)), .val (.int (f0_v217 p4)), .val (.int (f0_v229 p4)), .val (.int (f0_v241 p4)), .val (.int (f0_v251 p5)), .val (.int (f0_v261 p5)), .val (.int (f0_s0_274 p5)), .val (.int (f0_s0_287 p5)), .val (.int (f0_s0_300 p5)), .unset, .unset, .unset, .unset, .unset, .unset, .unset, .unset, .unset] [(.ref b60)])) _
    refine XS.dup X60.here hx rfl (hb hby at_305) rfl rfl ?_
    refine XS.iload X60.here hx rfl (hb hby at_306) rfl ?_
    refine XS.lconst X60.here hx rfl (hb hby at_308) ?_
    refine XS.iload X60.here hx rfl (hb hby at_309) rfl ?_
    show Steps p.tables e below (T60.setTop (mkF m 311 #[.val (.int p1), .val (.int p2), .val (.int p3), .val (.int p4), .val (.int p5), .val (.int ((p1 &&& (3 : Int32)) - (1 : Int32))), .val (.int (f0_v14 p1)), .val (.int (f0_v23 p1)), .val (.ref b6), .val (.ref b18), .val (.ref b37), .val (.int (f0_v151 p2)), .val (.int (f0_v163 p2)), .val (.int (f0_v175 p2)), .val (.int (f0_v184 p3)), .val (.int (f0_v196 p3)), .val (.int (f0_v208 p3)), .val (.int (f0_v217 p4)), .val (.int (f0_v229 p4)), .val (.int (f0_v241 p4)), .val (.int (f0_v251 p5)), .val (.int (f0_v261 p5)), .val (.int (f0_s0_274 p5)), .val (.int (f0_s0_287 p5)), .val (.int (f0_s0_300 p5)), .unset, .unset, .unset, .unset, .unset, .unset, .unset, .unset, .unset] [(.int (f0_v163 p2)), (.long (0 : Int64)), (.int (f0_v151 p2)), (.ref b60), (.ref b60)])) _
    refine XS.iload X60.here hx rfl (hb hby at_311) rfl ?_
    show Steps p.tables e below (T60.setTop (mkF m 313 #[.val (.int p1), .val (.int p2), .val (.int p3), .val (.int p4), .val (.int p5), .val (.int ((p1 &&& (3 : Int32)) - (1 : Int32))), .val (.int (f0_v14 p1)), .val (.int (f0_v23 p1)), .val (.ref b6), .val (.ref b18), .val (.ref b37), .val (.int (f0_v151 p2)), .val (.int (f0_v163 p2)), .val (.int (f0_v175 p2)), .val (.int (f0_v184 p3)), .val (.int (f0_v196 p3)), .val (.int (f0_v208 p3)), .val (.int (f0_v217 p4)), .val (.int (f0_v229 p4)), .val (.int (f0_v241 p4)), .val (.int (f0_v251 p5)), .val (.int (f0_v261 p5)), .val (.int (f0_s0_274 p5)), .val (.int (f0_s0_287 p5)), .val (.int (f0_s0_300 p5)), .unset, .unset, .unset, .unset, .unset, .unset, .unset, .unset, .unset] [(.int (f0_v175 p2)), (.int (f0_v163 p2)), (.long (0 : Int64)), (.int (f0_v151 p2)), (.ref b60), (.ref b60)])) _
    refine st70.trans ?_
    show Steps p.tables e below (T70.setTop (mkF m 316 #[.val (.int p1), .val (.int p2), .val (.int p3), .val (.int p4), .val (.int p5), .val (.int ((p1 &&& (3 : Int32)) - (1 : Int32))), .val (.int (f0_v14 p1)), .val (.int (f0_v23 p1)), .val (.ref b6), .val (.ref b18), .val (.ref b37), .val (.int (f0_v151 p2)), .val (.int (f0_v163 p2)), .val (.int (f0_v175 p2)), .val (.int (f0_v184 p3)), .val (.int (f0_v196 p3)), .val (.int (f0_v208 p3)), .val (.int (f0_v217 p4)), .val (.int (f0_v229 p4)), .val (.int (f0_v241 p4)), .val (.int (f0_v251 p5)), .val (.int (f0_v261 p5)), .val (.int (f0_s0_274 p5)), .val (.int (f0_s0_287 p5)), .val (.int (f0_s0_300 p5)), .unset, .unset, .unset, .unset, .unset, .unset, .unset, .unset, .unset] [(.ref b60)])) _
    refine XS.astore X70.here hx rfl (hb hby at_316) rfl rfl (l' := #[.val (.int p1), .val (.int p2), .val (.int p3), .val (.int p4), .val (.int p5), .val (.int ((p1 &&& (3 : Int32)) - (1 : Int32))), .val (.int (f0_v14 p1)), .val (.int (f0_v23 p1)), .val (.ref b6), .val (.ref b18), .val (.ref b37), .val (.int (f0_v151 p2)), .val (.int (f0_v163 p2)), .val (.int (f0_v175 p2)), .val (.int (f0_v184 p3)), .val (.int (f0_v196 p3)), .val (.int (f0_v208 p3)), .val (.int (f0_v217 p4)), .val (.int (f0_v229 p4)), .val (.int (f0_v241 p4)), .val (.int (f0_v251 p5)), .val (.int (f0_v261 p5)), .val (.int (f0_s0_274 p5)), .val (.int (f0_s0_287 p5)), .val (.int (f0_s0_300 p5)), .val (.ref b60), .unset, .unset, .unset, .unset, .unset, .unset, .unset, .unset]) rfl ?_
    show Steps p.tables e below (T70.setTop (mkF m 318 #[.val (.int p1), .val (.int p2), .val (.int p3), .val (.int p4), .val (.int p5), .val (.int ((p1 &&& (3 : Int32)) - (1 : Int32))), .val (.int (f0_v14 p1)), .val (.int (f0_v23 p1)), .val (.ref b6), .val (.ref b18), .val (.ref b37), .val (.int (f0_v151 p2)), .val (.int (f0_v163 p2)), .val (.int (f0_v175 p2)), .val (.int (f0_v184 p3)), .val (.int (f0_v196 p3)), .val (.int (f0_v208 p3)), .val (.int (f0_v217 p4)), .val (.int (f0_v229 p4)), .val (.int (f0_v241 p4)), .val (.int (f0_v251 p5)), .val (.int (f0_v261 p5)), .val (.int (f0_s0_274 p5)), .val (.int (f0_s0_287 p5)), .val (.int (f0_s0_300 p5)), .val (.ref b60), .unset, .unset, .unset, .unset, .unset, .unset, .unset, .unset] [])) _
    refine st81 _ ?_
    show Steps p.tables e below (T81.setTop (mkF m 321 #[.val (.int p1), .val (.int p2), .val (.int p3), .val (.int p4), .val (.int p5), .val (.int ((p1 &&& (3 : Int32)) - (1 : Int32))), .val (.int (f0_v14 p1)), .val (.int (f0_v23 p1)), .val (.ref b6), .val (.ref b18), .val (.ref b37), .val (.int (f0_v151 p2)), .val (.int (f0_v163 p2)), .val (.int (f0_v175 p2)), .val (.int (f0_v184 p3)), .val (.int (f0_v196 p3)), .val (.int (f0_v208 p3)), .val (.int (f0_v217 p4)), .val (.int (f0_v229 p4)), .val (.int (f0_v241 p4)), .val (.int (f0_v251 p5)), .val (.int (f0_v261 p5)), .val (.int (f0_s0_274 p5)), .val (.int (f0_s0_287 p5)), .val (.int (f0_s0_300 p5)), .val (.ref b60), .unset, .unset, .unset, .unset, .unset, .unset, .unset, .unset] [(.ref b81)])) _
    refine XS.dup X81.here hx rfl (hb hby at_321) rfl rfl ?_
    refine XS.iload X81.here hx rfl (hb hby at_322) rfl ?_
    refine XS.lconst X81.here hx rfl (hb hby at_324) ?_
    refine XS.iload X81.here hx rfl (hb hby at_325) rfl ?_
    show Steps p.tables e below (T81.setTop (mkF m 327 #[.val (.int p1), .val (.int p2), .val (.int p3), .val (.int p4), .val (.int p5), .val (.int ((p1 &&& (3 : Int32)) - (1 : Int32))), .val (.int (f0_v14 p1)), .val (.int (f0_v23 p1)), .val (.ref b6), .val (.ref b18), .val (.ref b37), .val (.int (f0_v151 p2)), .val (.int (f0_v163 p2)), .val (.int (f0_v175 p2)), .val (.int (f0_v184 p3)), .val (.int (f0_v196 p3)), .val (.int (f0_v208 p3)), .val (.int (f0_v217 p4)), .val (.int (f0_v229 p4)), .val (.int (f0_v241 p4)), .val (.int (f0_v251 p5)), .val (.int (f0_v261 p5)), .val (.int (f0_s0_274 p5)), .val (.int (f0_s0_287 p5)), .val (.int (f0_s0_300 p5)), .val (.ref b60), .unset, .unset, .unset, .unset, .unset, .unset, .unset, .unset] [(.int (f0_v196 p3)), (.long (0 : Int64)), (.int (f0_v184 p3)), (.ref b81), (.ref b81)])) _
    refine XS.iload X81.here hx rfl (hb hby at_327) rfl ?_
    show Steps p.tables e below (T81.setTop (mkF m 329 #[.val (.int p1), .val (.int p2), .val (.int p3), .val (.int p4), .val (.int p5), .val (.int ((p1 &&& (3 : Int32)) - (1 : Int32))), .val (.int (f0_v14 p1)), .val (.int (f0_v23 p1)), .val (.ref b6), .val (.ref b18), .val (.ref b37), .val (.int (f0_v151 p2)), .val (.int (f0_v163 p2)), .val (.int (f0_v175 p2)), .val (.int (f0_v184 p3)), .val (.int (f0_v196 p3)), .val (.int (f0_v208 p3)), .val (.int (f0_v217 p4)), .val (.int (f0_v229 p4)), .val (.int (f0_v241 p4)), .val (.int (f0_v251 p5)), .val (.int (f0_v261 p5)), .val (.int (f0_s0_274 p5)), .val (.int (f0_s0_287 p5)), .val (.int (f0_s0_300 p5)), .val (.ref b60), .unset, .unset, .unset, .unset, .unset, .unset, .unset, .unset] [(.int (f0_v208 p3)), (.int (f0_v196 p3)), (.long (0 : Int64)), (.int (f0_v184 p3)), (.ref b81), (.ref b81)])) _
    refine st96.trans ?_
    show Steps p.tables e below (T96.setTop (mkF m 332 #[.val (.int p1), .val (.int p2), .val (.int p3), .val (.int p4), .val (.int p5), .val (.int ((p1 &&& (3 : Int32)) - (1 : Int32))), .val (.int (f0_v14 p1)), .val (.int (f0_v23 p1)), .val (.ref b6), .val (.ref b18), .val (.ref b37), .val (.int (f0_v151 p2)), .val (.int (f0_v163 p2)), .val (.int (f0_v175 p2)), .val (.int (f0_v184 p3)), .val (.int (f0_v196 p3)), .val (.int (f0_v208 p3)), .val (.int (f0_v217 p4)), .val (.int (f0_v229 p4)), .val (.int (f0_v241 p4)), .val (.int (f0_v251 p5)), .val (.int (f0_v261 p5)), .val (.int (f0_s0_274 p5)), .val (.int (f0_s0_287 p5)), .val (.int (f0_s0_300 p5)), .val (.ref b60), .unset, .unset, .unset, .unset, .unset, .unset, .unset, .unset] [(.ref b81)])) _
    refine XS.astore X96.here hx rfl (hb hby at_332) rfl rfl (l' := #[.val (.int p1), .val (.int p2), .val (.int p3), .val (.int p4), .val (.int p5), .val (.int ((p1 &&& (3 : Int32)) - (1 : Int32))), .val (.int (f0_v14 p1)), .val (.int (f0_v23 p1)), .val (.ref b6), .val (.ref b18), .val (.ref b37), .val (.int (f0_v151 p2)), .val (.int (f0_v163 p2)), .val (.int (f0_v175 p2)), .val (.int (f0_v184 p3)), .val (.int (f0_v196 p3)), .val (.int (f0_v208 p3)), .val (.int (f0_v217 p4)), .val (.int (f0_v229 p4)), .val (.int (f0_v241 p4)), .val (.int (f0_v251 p5)), .val (.int (f0_v261 p5)), .val (.int (f0_s0_274 p5)), .val (.int (f0_s0_287 p5)), .val (.int (f0_s0_300 p5)), .val (.ref b60), .val (.ref b81), .unset, .unset, .unset, .unset, .unset, .unset, .unset]) rfl ?_
    show Steps p.tables e below (T96.setTop (mkF m 334 #[.val (.int p1), .val (.int p2), .val (.int p3), .val (.int p4), .val (.int p5), .val (.int ((p1 &&& (3 : Int32)) - (1 : Int32))), .val (.int (f0_v14 p1)), .val (.int (f0_v23 p1)), .val (.ref b6), .val (.ref b18), .val (.ref b37), .val (.int (f0_v151 p2)), .val (.int (f0_v163 p2)), .val (.int (f0_v175 p2)), .val (.int (f0_v184 p3)), .val (.int (f0_v196 p3)), .val (.int (f0_v208 p3)), .val (.int (f0_v217 p4)), .val (.int (f0_v229 p4)), .val (.int (f0_v241 p4)), .val (.int (f0_v251 p5)), .val (.int (f0_v261 p5)), .val (.int (f0_s0_274 p5)), .val (.int (f0_s0_287 p5)), .val (.int (f0_s0_300 p5)), .val (.ref b60), .val (.ref b81), .unset, .unset, .unset, .unset, .unset, .unset, .unset] [])) _
    refine st112 _ ?_
    show Steps p.tables e below (T112.setTop (mkF m 337 #[.val (.int p1), .val (.int p2), .val (.int p3), .val (.int p4), .val (.int p5), .val (.int ((p1 &&& (3 : Int32)) - (1 : Int32))), .val (.int (f0_v14 p1)), .val (.int (f0_v23 p1)), .val (.ref b6), .val (.ref b18), .val (.ref b37), .val (.int (f0_v151 p2)), .val (.int (f0_v163 p2)), .val (.int (f0_v175 p2)), .val (.int (f0_v184 p3)), .val (.int (f0_v196 p3)), .val (.int (f0_v208 p3)), .val (.int (f0_v217 p4)), .val (.int (f0_v229 p4)), .val (.int (f0_v241 p4)), .val (.int (f0_v251 p5)), .val (.int (f0_v261 p5)), .val (.int (f0_s0_274 p5)), .val (.int (f0_s0_287 p5)), .val (.int (f0_s0_300 p5)), .val (.ref b60), .val (.ref b81), .unset, .unset, .unset, .unset, .unset, .unset, .unset] [(.ref b112)])) _
    refine XS.dup X112.here hx rfl (hb hby at_337) rfl rfl ?_
    refine XS.iload X112.here hx rfl (hb hby at_338) rfl ?_
    refine XS.lconst X112.here hx rfl (hb hby at_340) ?_
    refine XS.iload X112.here hx rfl (hb hby at_341) rfl ?_
    show Steps p.tables e below (T112.setTop (mkF m 343 #[.val (.int p1), .val (.int p2), .val (.int p3), .val (.int p4), .val (.int p5), .val (.int ((p1 &&& (3 : Int32)) - (1 : Int32))), .val (.int (f0_v14 p1)), .val (.int (f0_v23 p1)), .val (.ref b6), .val (.ref b18), .val (.ref b37), .val (.int (f0_v151 p2)), .val (.int (f0_v163 p2)), .val (.int (f0_v175 p2)), .val (.int (f0_v184 p3)), .val (.int (f0_v196 p3)), .val (.int (f0_v208 p3)), .val (.int (f0_v217 p4)), .val (.int (f0_v229 p4)), .val (.int (f0_v241 p4)), .val (.int (f0_v251 p5)), .val (.int (f0_v261 p5)), .val (.int (f0_s0_274 p5)), .val (.int (f0_s0_287 p5)), .val (.int (f0_s0_300 p5)), .val (.ref b60), .val (.ref b81), .unset, .unset, .unset, .unset, .unset, .unset, .unset] [(.int (f0_v229 p4)), (.long (0 : Int64)), (.int (f0_v217 p4)), (.ref b112), (.ref b112)])) _
    refine XS.iload X112.here hx rfl (hb hby at_343) rfl ?_
    show Steps p.tables e below (T112.setTop (mkF m 345 #[.val (.int p1), .val (.int p2), .val (.int p3), .val (.int p4), .val (.int p5), .val (.int ((p1 &&& (3 : Int32)) - (1 : Int32))), .val (.int (f0_v14 p1)), .val (.int (f0_v23 p1)), .val (.ref b6), .val (.ref b18), .val (.ref b37), .val (.int (f0_v151 p2)), .val (.int (f0_v163 p2)), .val (.int (f0_v175 p2)), .val (.int (f0_v184 p3)), .val (.int (f0_v196 p3)), .val (.int (f0_v208 p3)), .val (.int (f0_v217 p4)), .val (.int (f0_v229 p4)), .val (.int (f0_v241 p4)), .val (.int (f0_v251 p5)), .val (.int (f0_v261 p5)), .val (.int (f0_s0_274 p5)), .val (.int (f0_s0_287 p5)), .val (.int (f0_s0_300 p5)), .val (.ref b60), .val (.ref b81), .unset, .unset, .unset, .unset, .unset, .unset, .unset] [(.int (f0_v241 p4)), (.int (f0_v229 p4)), (.long (0 : Int64)), (.int (f0_v217 p4)), (.ref b112), (.ref b112)])) _
    refine st132.trans ?_
    show Steps p.tables e below (T132.setTop (mkF m 348 #[.val (.int p1), .val (.int p2), .val (.int p3), .val (.int p4), .val (.int p5), .val (.int ((p1 &&& (3 : Int32)) - (1 : Int32))), .val (.int (f0_v14 p1)), .val (.int (f0_v23 p1)), .val (.ref b6), .val (.ref b18), .val (.ref b37), .val (.int (f0_v151 p2)), .val (.int (f0_v163 p2)), .val (.int (f0_v175 p2)), .val (.int (f0_v184 p3)), .val (.int (f0_v196 p3)), .val (.int (f0_v208 p3)), .val (.int (f0_v217 p4)), .val (.int (f0_v229 p4)), .val (.int (f0_v241 p4)), .val (.int (f0_v251 p5)), .val (.int (f0_v261 p5)), .val (.int (f0_s0_274 p5)), .val (.int (f0_s0_287 p5)), .val (.int (f0_s0_300 p5)), .val (.ref b60), .val (.ref b81), .unset, .unset, .unset, .unset, .unset, .unset, .unset] [(.ref b112)])) _
    refine XS.astore X132.here hx rfl (hb hby at_348) rfl rfl (l' := #[.val (.int p1), .val (.int p2), .val (.int p3), .val (.int p4), .val (.int p5), .val (.int ((p1 &&& (3 : Int32)) - (1 : Int32))), .val (.int (f0_v14 p1)), .val (.int (f0_v23 p1)), .val (.ref b6), .val (.ref b18), .val (.ref b37), .val (.int (f0_v151 p2)), .val (.int (f0_v163 p2)), .val (.int (f0_v175 p2)), .val (.int (f0_v184 p3)), .val (.int (f0_v196 p3)), .val (.int (f0_v208 p3)), .val (.int (f0_v217 p4)), .val (.int (f0_v229 p4)), .val (.int (f0_v241 p4)), .val (.int (f0_v251 p5)), .val (.int (f0_v261 p5)), .val (.int (f0_s0_274 p5)), .val (.int (f0_s0_287 p5)), .val (.int (f0_s0_300 p5)), .val (.ref b60), .val (.ref b81), .val (.ref b112), .unset, .unset, .unset, .unset, .unset, .unset]) rfl ?_
    show Steps p.tables e below (T132.setTop (mkF m 350 #[.val (.int p1), .val (.int p2), .val (.int p3), .val (.int p4), .val (.int p5), .val (.int ((p1 &&& (3 : Int32)) - (1 : Int32))), .val (.int (f0_v14 p1)), .val (.int (f0_v23 p1)), .val (.ref b6), .val (.ref b18), .val (.ref b37), .val (.int (f0_v151 p2)), .val (.int (f0_v163 p2)), .val (.int (f0_v175 p2)), .val (.int (f0_v184 p3)), .val (.int (f0_v196 p3)), .val (.int (f0_v208 p3)), .val (.int (f0_v217 p4)), .val (.int (f0_v229 p4)), .val (.int (f0_v241 p4)), .val (.int (f0_v251 p5)), .val (.int (f0_v261 p5)), .val (.int (f0_s0_274 p5)), .val (.int (f0_s0_287 p5)), .val (.int (f0_s0_300 p5)), .val (.ref b60), .val (.ref b81), .val (.ref b112), .unset, .unset, .unset, .unset, .unset, .unset] [])) _
    refine st153 _ ?_
    show Steps p.tables e below (T153.setTop (mkF m 353 #[.val (.int p1), .val (.int p2), .val (.int p3), .val (.int p4), .val (.int p5), .val (.int ((p1 &&& (3 : Int32)) - (1 : Int32))), .val (.int (f0_v14 p1)), .val (.int (f0_v23 p1)), .val (.ref b6), .val (.ref b18), .val (.ref b37), .val (.int (f0_v151 p2)), .val (.int (f0_v163 p2)), .val (.int (f0_v175 p2)), .val (.int (f0_v184 p3)), .val (.int (f0_v196 p3)), .val (.int (f0_v208 p3)), .val (.int (f0_v217 p4)), .val (.int (f0_v229 p4)), .val (.int (f0_v241 p4)), .val (.int (f0_v251 p5)), .val (.int (f0_v261 p5)), .val (.int (f0_s0_274 p5)), .val (.int (f0_s0_287 p5)), .val (.int (f0_s0_300 p5)), .val (.ref b60), .val (.ref b81), .val (.ref b112), .unset, .unset, .unset, .unset, .unset, .unset] [(.ref b153)])) _
    refine XS.dup X153.here hx rfl (hb hby at_353) rfl rfl ?_
    refine XS.aload X153.here hx rfl (hb hby at_354) rfl rfl ?_
    refine XS.aload X153.here hx rfl (hb hby at_356) rfl rfl ?_
    refine XS.aload X153.here hx rfl (hb hby at_358) rfl rfl ?_
    show Steps p.tables e below (T153.setTop (mkF m 360 #[.val (.int p1), .val (.int p2), .val (.int p3), .val (.int p4), .val (.int p5), .val (.int ((p1 &&& (3 : Int32)) - (1 : Int32))), .val (.int (f0_v14 p1)), .val (.int (f0_v23 p1)), .val (.ref b6), .val (.ref b18), .val (.ref b37), .val (.int (f0_v151 p2)), .val (.int (f0_v163 p2)), .val (.int (f0_v175 p2)), .val (.int (f0_v184 p3)), .val (.int (f0_v196 p3)), .val (.int (f0_v208 p3)), .val (.int (f0_v217 p4)), .val (.int (f0_v229 p4)), .val (.int (f0_v241 p4)), .val (.int (f0_v251 p5)), .val (.int (f0_v261 p5)), .val (.int (f0_s0_274 p5)), .val (.int (f0_s0_287 p5)), .val (.int (f0_s0_300 p5)), .val (.ref b60), .val (.ref b81), .val (.ref b112), .unset, .unset, .unset, .unset, .unset, .unset] [(.ref b37), (.ref b18), (.ref b6), (.ref b153), (.ref b153)])) _
    refine st183.trans ?_
    show Steps p.tables e below (T183.setTop (mkF m 363 #[.val (.int p1), .val (.int p2), .val (.int p3), .val (.int p4), .val (.int p5), .val (.int ((p1 &&& (3 : Int32)) - (1 : Int32))), .val (.int (f0_v14 p1)), .val (.int (f0_v23 p1)), .val (.ref b6), .val (.ref b18), .val (.ref b37), .val (.int (f0_v151 p2)), .val (.int (f0_v163 p2)), .val (.int (f0_v175 p2)), .val (.int (f0_v184 p3)), .val (.int (f0_v196 p3)), .val (.int (f0_v208 p3)), .val (.int (f0_v217 p4)), .val (.int (f0_v229 p4)), .val (.int (f0_v241 p4)), .val (.int (f0_v251 p5)), .val (.int (f0_v261 p5)), .val (.int (f0_s0_274 p5)), .val (.int (f0_s0_287 p5)), .val (.int (f0_s0_300 p5)), .val (.ref b60), .val (.ref b81), .val (.ref b112), .unset, .unset, .unset, .unset, .unset, .unset] [(.ref b153)])) _
    refine XS.astore X183.here hx rfl (hb hby at_363) rfl rfl (l' := #[.val (.int p1), .val (.int p2), .val (.int p3), .val (.int p4), .val (.int p5), .val (.int ((p1 &&& (3 : Int32)) - (1 : Int32))), .val (.int (f0_v14 p1)), .val (.int (f0_v23 p1)), .val (.ref b6), .val (.ref b18), .val (.ref b37), .val (.int (f0_v151 p2)), .val (.int (f0_v163 p2)), .val (.int (f0_v175 p2)), .val (.int (f0_v184 p3)), .val (.int (f0_v196 p3)), .val (.int (f0_v208 p3)), .val (.int (f0_v217 p4)), .val (.int (f0_v229 p4)), .val (.int (f0_v241 p4)), .val (.int (f0_v251 p5)), .val (.int (f0_v261 p5)), .val (.int (f0_s0_274 p5)), .val (.int (f0_s0_287 p5)), .val (.int (f0_s0_300 p5)), .val (.ref b60), .val (.ref b81), .val (.ref b112), .val (.ref b153), .unset, .unset, .unset, .unset, .unset]) rfl ?_
    refine XS.iload X183.here hx rfl (hb hby at_365) rfl ?_
    exact k
  obtain ⟨T288, Lmpre26, h251, X288, e288, N288, c252, c253, c254, c255, c256, c257, c258, c259, c260, c261, c262, c263, c264, c265, c266, c267, c268, c269, c270, c271, c272, c273, c274, c275, c276, c277, c278, c279, c280, c281, c282, c283, c284, c285, c286, c287, pre26⟩ : ∃ (T' : State) (L' : List Loc) (h251 : Heap), Stand p l e room_1 s m #[(.int p1), (.int p2), (.int p3), (.int p4), (.int p5)] below meth c T' L' 13 48 ∧ T'.heap = h251 ∧ Fr n0 L' ∧ n0 ≤ h251.size ∧ IAr Z h251 b6 .int (3 : Int32) (f0_v42 p1) ∧ IAr Z h251 b18 .int (3 : Int32) (f0_v86 p1) ∧ Exa Z h251 b37 "[Z" ∧ IAr Z h251 b37 .boolean (3 : Int32) (f0_v142 p1) ∧ Exa Z h251 b60 "com/example/podflow/podflow/simulation/Pickup" ∧ Fld Z h251 b60 "com/example/podflow/podflow/simulation/Pickup" "vehicle" "I" (.int (f2_o0 (f0_v151 p2) (0 : Int64) (f0_v163 p2) (f0_v175 p2) (0 : Int32) (0 : Int64) (0 : Int32) (0 : Int32))) ∧ Fld Z h251 b60 "com/example/podflow/podflow/simulation/Pickup" "time" "J" (.long (f2_o1 (f0_v151 p2) (0 : Int64) (f0_v163 p2) (f0_v175 p2) (0 : Int32) (0 : Int64) (0 : Int32) (0 : Int32))) ∧ Fld Z h251 b60 "com/example/podflow/podflow/simulation/Pickup" "emptyFrom" "I" (.int (f2_o2 (f0_v151 p2) (0 : Int64) (f0_v163 p2) (f0_v175 p2) (0 : Int32) (0 : Int64) (0 : Int32) (0 : Int32))) ∧ Fld Z h251 b60 "com/example/podflow/podflow/simulation/Pickup" "emptyTo" "I" (.int (f2_o3 (f0_v151 p2) (0 : Int64) (f0_v163 p2) (f0_v175 p2) (0 : Int32) (0 : Int64) (0 : Int32) (0 : Int32))) ∧ Exa Z h251 b81 "com/example/podflow/podflow/simulation/Pickup" ∧ Fld Z h251 b81 "com/example/podflow/podflow/simulation/Pickup" "vehicle" "I" (.int (f2_o0 (f0_v184 p3) (0 : Int64) (f0_v196 p3) (f0_v208 p3) (0 : Int32) (0 : Int64) (0 : Int32) (0 : Int32))) ∧ Fld Z h251 b81 "com/example/podflow/podflow/simulation/Pickup" "time" "J" (.long (f2_o1 (f0_v184 p3) (0 : Int64) (f0_v196 p3) (f0_v208 p3) (0 : Int32) (0 : Int64) (0 : Int32) (0 : Int32))) ∧ Fld Z h251 b81 "com/example/podflow/podflow/simulation/Pickup" "emptyFrom" "I" (.int (f2_o2 (f0_v184 p3) (0 : Int64) (f0_v196 p3) (f0_v208 p3) (0 : Int32) (0 : Int64) (0 : Int32) (0 : Int32))) ∧ Fld Z h251 b81 "com/example/podflow/podflow/simulation/Pickup" "emptyTo" "I" (.int (f2_o3 (f0_v184 p3) (0 : Int64) (f0_v196 p3) (f0_v208 p3) (0 : Int32) (0 : Int64) (0 : Int32) (0 : Int32))) ∧ Exa Z h251 b112 "com/example/podflow/podflow/simulation/Pickup" ∧ Fld Z h251 b112 "com/example/podflow/podflow/simulation/Pickup" "vehicle" "I" (.int (f2_o0 (f0_v217 p4) (0 : Int64) (f0_v229 p4) (f0_v241 p4) (0 : Int32) (0 : Int64) (0 : Int32) (0 : Int32))) ∧ Fld Z h251 b112 "com/example/podflow/podflow/simulation/Pickup" "time" "J" (.long (f2_o1 (f0_v217 p4) (0 : Int64) (f0_v229 p4) (f0_v241 p4) (0 : Int32) (0 : Int64) (0 : Int32) (0 : Int32))) ∧ Fld Z h251 b112 "com/example/podflow/podflow/simulation/Pickup" "emptyFrom" "I" (.int (f2_o2 (f0_v217 p4) (0 : Int64) (f0_v229 p4) (f0_v241 p4) (0 : Int32) (0 : Int64) (0 : Int32) (0 : Int32))) ∧ Fld Z h251 b112 "com/example/podflow/podflow/simulation/Pickup" "emptyTo" "I" (.int (f2_o3 (f0_v217 p4) (0 : Int64) (f0_v229 p4) (f0_v241 p4) (0 : Int32) (0 : Int64) (0 : Int32) (0 : Int32))) ∧ Exa Z h251 b153 "com/example/podflow/podflow/simulation/Ballot" ∧ Fld Z h251 b153 "com/example/podflow/podflow/simulation/Ballot" "idleAt" "[I" (.ref b6) ∧ Fld Z h251 b153 "com/example/podflow/podflow/simulation/Ballot" "idleCount" "[I" (.ref b18) ∧ Fld Z h251 b153 "com/example/podflow/podflow/simulation/Ballot" "open" "[Z" (.ref r183_0) ∧ Fld Z h251 b153 "com/example/podflow/podflow/simulation/Ballot" "served" "[I" (.ref r183_1) ∧ Fld Z h251 b153 "com/example/podflow/podflow/simulation/Ballot" "servedHome" "[I" (.ref r183_2) ∧ Fld Z h251 b153 "com/example/podflow/podflow/simulation/Ballot" "ownLeaving" "[I" (.ref r183_3) ∧ Fld Z h251 b153 "com/example/podflow/podflow/simulation/Ballot" "anyLeaving" "[I" (.ref r183_4) ∧ Fld Z h251 b153 "com/example/podflow/podflow/simulation/Ballot" "counted" "[Z" (.ref r183_5) ∧ Fld Z h251 b153 "com/example/podflow/podflow/simulation/Ballot" "unsettled" "I" (.int (f0_F_unsettled_b153_377 p1 p2 p5)) ∧ IAr Z h251 r183_0 .boolean (f5_x0n (0 : Int32) (3 : Int32) (f0_v42 p1) (3 : Int32) (f0_v86 p1) (3 : Int32) (f0_v142 p1)) (f0_A_r183_0_377 p1 p2 p5) ∧ IAr Z h251 r183_1 .int (f5_x1n (0 : Int32) (3 : Int32) (f0_v42 p1) (3 : Int32) (f0_v86 p1) (3 : Int32) (f0_v142 p1)) (f0_A_r183_1_377 p1 p2 p5) ∧ IAr Z h251 r183_2 .int (f5_x2n (0 : Int32) (3 : Int32) (f0_v42 p1) (3 : Int32) (f0_v86 p1) (3 : Int32) (f0_v142 p1)) (f0_A_r183_2_377 p1 p2 p5) ∧ IAr Z h251 r183_3 .int (f5_x3n (0 : Int32) (3 : Int32) (f0_v42 p1) (3 : Int32) (f0_v86 p1) (3 : Int32) (f0_v142 p1)) (f0_A_r183_3_377 p1 p2 p5) ∧ IAr Z h251 r183_4 .int (f5_x4n (0 : Int32) (3 : Int32) (f0_v42 p1) (3 : Int32) (f0_v86 p1) (3 : Int32) (f0_v142 p1)) (f0_A_r183_4_377 p1 p2 p5) ∧ IAr Z h251 r183_5 .boolean (f5_x5n (0 : Int32) (3 : Int32) (f0_v42 p1) (3 : Int32) (f0_v86 p1) (3 : Int32) (f0_v142 p1)) (f0_A_r183_5_377 p1 p2 p5) ∧ ∀ t, Steps p.tables e below (T'.setTop (mkF m 377 #[.val (.int p1), .val (.int p2), .val (.int p3), .val (.int p4), .val (.int p5), .val (.int ((p1 &&& (3 : Int32)) - (1 : Int32))), .val (.int (f0_v14 p1)), .val (.int (f0_v23 p1)), .val (.ref b6), .val (.ref b18), .val (.ref b37), .val (.int (f0_v151 p2)), .val (.int (f0_v163 p2)), .val (.int (f0_v175 p2)), .val (.int (f0_v184 p3)), .val (.int (f0_v196 p3)), .val (.int (f0_v208 p3)), .val (.int (f0_v217 p4)), .val (.int (f0_v229 p4)), .val (.int (f0_v241 p4)), .val (.int (f0_v251 p5)), .val (.int (f0_v261 p5)), .val (.int (f0_s0_274 p5)), .val (.int (f0_s0_287 p5)), .val (.int (f0_s0_300 p5)), .val (.ref b60), .val (.ref b81), .val (.ref b112), .val (.ref b153), .unset, .unset, .unset, .unset, .unset] [])) t → Steps p.tables e below (s₁.setTop (entryFrame m #[(.int p1), (.int p2), (.int p3), (.int p4), (.int p5)] maxLocals)) t := by
    by_cases hc367 : (f0_s0_274 p5) = (0 : Int32)
    · have eq27 := (show (f0_F_unsettled_b153_377 p1 p2 p5) = (f5_o2 (0 : Int32) (3 : Int32) (f0_v42 p1) (3 : Int32) (f0_v86 p1) (3 : Int32) (f0_v142 p1)) from by unfold f0_F_unsettled_b153_377; simp only [if_pos hc367])
      have eq28 := (show (f0_A_r183_0_377 p1 p2 p5) = (f5_x0c (0 : Int32) (3 : Int32) (f0_v42 p1) (3 : Int32) (f0_v86 p1) (3 : Int32) (f0_v142 p1)) from by unfold f0_A_r183_0_377; simp only [if_pos hc367])
      have eq29 := (show (f0_A_r183_1_377 p1 p2 p5) = (f5_x1c (0 : Int32) (3 : Int32) (f0_v42 p1) (3 : Int32) (f0_v86 p1) (3 : Int32) (f0_v142 p1)) from by unfold f0_A_r183_1_377; simp only [if_pos hc367])
      have eq30 := (show (f0_A_r183_2_377 p1 p2 p5) = (f5_x2c (0 : Int32) (3 : Int32) (f0_v42 p1) (3 : Int32) (f0_v86 p1) (3 : Int32) (f0_v142 p1)) from by unfold f0_A_r183_2_377; simp only [if_pos hc367])
      have eq31 := (show (f0_A_r183_3_377 p1 p2 p5) = (f5_x3c (0 : Int32) (3 : Int32) (f0_v42 p1) (3 : Int32) (f0_v86 p1) (3 : Int32) (f0_v142 p1)) from by unfold f0_A_r183_3_377; simp only [if_pos hc367])
      have eq32 := (show (f0_A_r183_4_377 p1 p2 p5) = (f5_x4c (0 : Int32) (3 : Int32) (f0_v42 p1) (3 : Int32) (f0_v86 p1) (3 : Int32) (f0_v142 p1)) from by unfold f0_A_r183_4_377; simp only [if_pos hc367])
      have eq33 := (show (f0_A_r183_5_377 p1 p2 p5) = (f5_x5c (0 : Int32) (3 : Int32) (f0_v42 p1) (3 : Int32) (f0_v86 p1) (3 : Int32) (f0_v142 p1)) from by unfold f0_A_r183_5_377; simp only [if_pos hc367])
      refine ⟨T183, _, T183.heap, X183, rfl, N183, c184, c185, c186, c187, c188, c189, c190, c191, c192, c193, c194, c195, c196, c197, c198, c199, c200, c201, c202, c203, c204, c205, c206, c207, c208, c209, c210, c211, c212, (by simp only [eq27, eq28, eq29, eq30, eq31, eq32, eq33]; exact c213), (by simp only [eq27, eq28, eq29, eq30, eq31, eq32, eq33]; exact va183_0), (by simp only [eq27, eq28, eq29, eq30, eq31, eq32, eq33]; exact va183_1), (by simp only [eq27, eq28, eq29, eq30, eq31, eq32, eq33]; exact va183_2), (by simp only [eq27, eq28, eq29, eq30, eq31, eq32, eq33]; exact va183_3), (by simp only [eq27, eq28, eq29, eq30, eq31, eq32, eq33]; exact va183_4), (by simp only [eq27, eq28, eq29, eq30, eq31, eq32, eq33]; exact va183_5), fun t k => ?_⟩
      try rw [eq27] at k
      try rw [eq28] at k
      try rw [eq29] at k
      try rw [eq30] at k
      try rw [eq31] at k
      try rw [eq32] at k
      try rw [eq33] at k
      refine pre25 t ?_
      refine XS.ifYes X183.here hx rfl (pc0 := 367) (pc' := 377) rfl (hb hby at_367) rfl ((if0 _ _).trans (teq hc367).1) (by decide) (by decide) ?_
      exact k
    · obtain ⟨cq214, kq214, q214a, q214b, q214c⟩ := isOf hZ rfl c204
      obtain ⟨_, _, ⟨T214, L214, k214, n214⟩, -, X214, ⟨Lc214, hQ214, l214, y214, z214⟩, st214⟩ := X183.virtualBack hx (y := (⟨"com/example/podflow/podflow/simulation/Ballot", "count", "(Lcom/example/podflow/podflow/simulation/Pickup;)V"⟩ : MethodName)) (z := (⟨"com/example/podflow/podflow/simulation/Ballot", "count", "(Lcom/example/podflow/podflow/simulation/Pickup;)V"⟩ : MethodName)) hown (mvT hZ (hw _ (List.mem_of_getElem? (i := 71) rfl))) (mvT hZ (hw _ (List.mem_of_getElem? (i := 72) rfl))) (notFace_of_selects (args := #[]) (mvT hZ (hw _ (List.mem_of_getElem? (i := 74) rfl)))) (mvT hZ (hw _ (List.mem_of_getElem? (i := 74) rfl))) (mvT hZ (hw _ (List.mem_of_getElem? (i := 73) rfl))) (by decide) (backOf (W := 0) (rm8 l Z a0 hw [] b153 b60 (f2_o0 (f0_v151 p2) (0 : Int64) (f0_v163 p2) (f0_v175 p2) (0 : Int32) (0 : Int64) (0 : Int32) (0 : Int32)) (f2_o2 (f0_v151 p2) (0 : Int64) (f0_v163 p2) (f0_v175 p2) (0 : Int32) (0 : Int64) (0 : Int32) (0 : Int32)) (f2_o3 (f0_v151 p2) (0 : Int64) (f0_v163 p2) (f0_v175 p2) (0 : Int32) (0 : Int64) (0 : Int32) (0 : Int32)) b6 b18 r183_0 r183_1 r183_2 r183_3 r183_4 r183_5 (f5_o2 (0 : Int32) (3 : Int32) (f0_v42 p1) (3 : Int32) (f0_v86 p1) (3 : Int32) (f0_v142 p1)) (3 : Int32) (f0_v42 p1) (3 : Int32) (f0_v86 p1) (f5_x0n (0 : Int32) (3 : Int32) (f0_v42 p1) (3 : Int32) (f0_v86 p1) (3 : Int32) (f0_v142 p1)) (f5_x0c (0 : Int32) (3 : Int32) (f0_v42 p1) (3 : Int32) (f0_v86 p1) (3 : Int32) (f0_v142 p1)) (f5_x1n (0 : Int32) (3 : Int32) (f0_v42 p1) (3 : Int32) (f0_v86 p1) (3 : Int32) (f0_v142 p1)) (f5_x1c (0 : Int32) (3 : Int32) (f0_v42 p1) (3 : Int32) (f0_v86 p1) (3 : Int32) (f0_v142 p1)) (f5_x2n (0 : Int32) (3 : Int32) (f0_v42 p1) (3 : Int32) (f0_v86 p1) (3 : Int32) (f0_v142 p1)) (f5_x2c (0 : Int32) (3 : Int32) (f0_v42 p1) (3 : Int32) (f0_v86 p1) (3 : Int32) (f0_v142 p1)) (f5_x3n (0 : Int32) (3 : Int32) (f0_v42 p1) (3 : Int32) (f0_v86 p1) (3 : Int32) (f0_v142 p1)) (f5_x3c (0 : Int32) (3 : Int32) (f0_v42 p1) (3 : Int32) (f0_v86 p1) (3 : Int32) (f0_v142 p1)) (f5_x4n (0 : Int32) (3 : Int32) (f0_v42 p1) (3 : Int32) (f0_v86 p1) (3 : Int32) (f0_v142 p1)) (f5_x4c (0 : Int32) (3 : Int32) (f0_v42 p1) (3 : Int32) (f0_v86 p1) (3 : Int32) (f0_v142 p1)) (f5_x5n (0 : Int32) (3 : Int32) (f0_v42 p1) (3 : Int32) (f0_v86 p1) (3 : Int32) (f0_v142 p1)) (f5_x5c (0 : Int32) (3 : Int32) (f0_v42 p1) (3 : Int32) (f0_v86 p1) (3 : Int32) (f0_v142 p1)) T183.heap n0 c184 c204 g_b153 c189 c190 c192 c193 c205 c206 c207 c208 c209 c210 c211 c212 c213 c185 c186 va183_0 va183_1 va183_2 va183_3 va183_4 va183_5 g_r183_0 g_r183_1 g_r183_2 g_r183_3 g_r183_4 g_r183_5 ne_b153_r183_0 ne_b153_r183_1 ne_b153_r183_2 ne_b153_r183_3 ne_b153_r183_4 ne_b153_r183_5 ne_r183_0_r183_1 ne_r183_0_r183_2 ne_r183_0_r183_3 ne_r183_0_r183_4 ne_r183_0_r183_5 ne_r183_1_r183_2 ne_r183_1_r183_3 ne_r183_1_r183_4 ne_r183_1_r183_5 ne_r183_2_r183_3 ne_r183_2_r183_4 ne_r183_2_r183_5 ne_r183_3_r183_4 ne_r183_3_r183_5 ne_r183_4_r183_5 ne_b6_b153 ne_b6_r183_0 ne_b6_r183_1 ne_b6_r183_2 ne_b6_r183_3 ne_b6_r183_4 ne_b6_r183_5 ne_b18_b153 ne_b18_r183_0 ne_b18_r183_1 ne_b18_r183_2 ne_b18_r183_3 ne_b18_r183_4 ne_b18_r183_5 ne_b60_b153 ne_b60_r183_0 ne_b60_r183_1 ne_b60_r183_2 ne_b60_r183_3 ne_b60_r183_4 ne_b60_r183_5 (own_v151 p2) (own_v163 p2) (own_ia p1) ⟨rfl, rfl, rfl, rfl, rfl, rfl, rfl, rfl⟩) hZ (hw _ (List.mem_of_getElem? (i := 75) rfl)) (hw _ (List.mem_of_getElem? (i := 30) rfl)) (by decide) (by decide)) q214a q214c (g := (mkF m 374 #[.val (.int p1), .val (.int p2), .val (.int p3), .val (.int p4), .val (.int p5), .val (.int ((p1 &&& (3 : Int32)) - (1 : Int32))), .val (.int (f0_v14 p1)), .val (.int (f0_v23 p1)), .val (.ref b6), .val (.ref b18), .val (.ref b37), .val (.int (f0_v151 p2)), .val (.int (f0_v163 p2)), .val (.int (f0_v175 p2)), .val (.int (f0_v184 p3)), .val (.int (f0_v196 p3)), .val (.int (f0_v208 p3)), .val (.int (f0_v217 p4)), .val (.int (f0_v229 p4)), .val (.int (f0_v241 p4)), .val (.int (f0_v251 p5)), .val (.int (f0_v261 p5)), .val (.int (f0_s0_274 p5)), .val (.int (f0_s0_287 p5)), .val (.int (f0_s0_300 p5)), .val (.ref b60), .val (.ref b81), .val (.ref b112), .val (.ref b153), .unset, .unset, .unset, .unset, .unset] [(.ref b60), (.ref b153)])) rfl (by rw [hml]; rfl) (Steps.refl _) (argsL := [(.ref b60)]) (rest := []) (lenOf pd_7 rfl) rfl (by show 2 * 0 + _ ≤ _; exact Nat.le_of_eq rfl) (hb hby at_374) (fun _ _ => ⟨rfl, rfl, (by decide : 13 + 0 ≤ _), (by decide : 48 + 0 ≤ _)⟩)
      dsimp only [Pt.U, Pt.locs, Pt.cells, Pt.slots] at X214 l214 y214 z214 st214 hQ214
      subst l214 y214 z214
      obtain ⟨rfl, N214q, K214, o214_0, o214_1, o214_2, o214_3, o214_4, o214_5, o214_6, o214_7, o214_8, o214_9, o214_10, o214_11, o214_12, o214_13, o214_14⟩ := hQ214
      have N214 := Fr.app N183 N214q
      have c215 : n0 ≤ T214.heap.size := Nat.le_trans c184 K214.1
      have c216 : IAr Z T214.heap b6 .int (3 : Int32) (f0_v42 p1) := c185.keep K214 (ninS ne_b6_b153 (ninS ne_b6_r183_0 (ninS ne_b6_r183_1 (ninS ne_b6_r183_2 (ninS ne_b6_r183_3 (ninS ne_b6_r183_4 (ninS ne_b6_r183_5 nin0)))))))
      have c217 : IAr Z T214.heap b18 .int (3 : Int32) (f0_v86 p1) := c186.keep K214 (ninS ne_b18_b153 (ninS ne_b18_r183_0 (ninS ne_b18_r183_1 (ninS ne_b18_r183_2 (ninS ne_b18_r183_3 (ninS ne_b18_r183_4 (ninS ne_b18_r183_5 nin0)))))))
      have c218 : Exa Z T214.heap b37 "[Z" := c187.keep K214
      have c219 : IAr Z T214.heap b37 .boolean (3 : Int32) (f0_v142 p1) := c188.keep K214 (ninS ne_b37_b153 (ninS ne_b37_r183_0 (ninS ne_b37_r183_1 (ninS ne_b37_r183_2 (ninS ne_b37_r183_3 (ninS ne_b37_r183_4 (ninS ne_b37_r183_5 nin0)))))))
      have c220 : Exa Z T214.heap b60 "com/example/podflow/podflow/simulation/Pickup" := c189.keep K214
      have c221 : Fld Z T214.heap b60 "com/example/podflow/podflow/simulation/Pickup" "vehicle" "I" (.int (f2_o0 (f0_v151 p2) (0 : Int64) (f0_v163 p2) (f0_v175 p2) (0 : Int32) (0 : Int64) (0 : Int32) (0 : Int32))) := c190.keep K214 (ninS ne_b60_b153 (ninS ne_b60_r183_0 (ninS ne_b60_r183_1 (ninS ne_b60_r183_2 (ninS ne_b60_r183_3 (ninS ne_b60_r183_4 (ninS ne_b60_r183_5 nin0)))))))
      have c222 : Fld Z T214.heap b60 "com/example/podflow/podflow/simulation/Pickup" "time" "J" (.long (f2_o1 (f0_v151 p2) (0 : Int64) (f0_v163 p2) (f0_v175 p2) (0 : Int32) (0 : Int64) (0 : Int32) (0 : Int32))) := c191.keep K214 (ninS ne_b60_b153 (ninS ne_b60_r183_0 (ninS ne_b60_r183_1 (ninS ne_b60_r183_2 (ninS ne_b60_r183_3 (ninS ne_b60_r183_4 (ninS ne_b60_r183_5 nin0)))))))
      have c223 : Fld Z T214.heap b60 "com/example/podflow/podflow/simulation/Pickup" "emptyFrom" "I" (.int (f2_o2 (f0_v151 p2) (0 : Int64) (f0_v163 p2) (f0_v175 p2) (0 : Int32) (0 : Int64) (0 : Int32) (0 : Int32))) := c192.keep K214 (ninS ne_b60_b153 (ninS ne_b60_r183_0 (ninS ne_b60_r183_1 (ninS ne_b60_r183_2 (ninS ne_b60_r183_3 (ninS ne_b60_r183_4 (ninS ne_b60_r183_5 nin0)))))))
      have c224 : Fld Z T214.heap b60 "com/example/podflow/podflow/simulation/Pickup" "emptyTo" "I" (.int (f2_o3 (f0_v151 p2) (0 : Int64) (f0_v163 p2) (f0_v175 p2) (0 : Int32) (0 : Int64) (0 : Int32) (0 : Int32))) := c193.keep K214 (ninS ne_b60_b153 (ninS ne_b60_r183_0 (ninS ne_b60_r183_1 (ninS ne_b60_r183_2 (ninS ne_b60_r183_3 (ninS ne_b60_r183_4 (ninS ne_b60_r183_5 nin0)))))))
      have c225 : Exa Z T214.heap b81 "com/example/podflow/podflow/simulation/Pickup" := c194.keep K214
      have c226 : Fld Z T214.heap b81 "com/example/podflow/podflow/simulation/Pickup" "vehicle" "I" (.int (f2_o0 (f0_v184 p3) (0 : Int64) (f0_v196 p3) (f0_v208 p3) (0 : Int32) (0 : Int64) (0 : Int32) (0 : Int32))) := c195.keep K214 (ninS ne_b81_b153 (ninS ne_b81_r183_0 (ninS ne_b81_r183_1 (ninS ne_b81_r183_2 (ninS ne_b81_r183_3 (ninS ne_b81_r183_4 (ninS ne_b81_r183_5 nin0)))))))
      have c227 : Fld Z T214.heap b81 "com/example/podflow/podflow/simulation/Pickup" "time" "J" (.long (f2_o1 (f0_v184 p3) (0 : Int64) (f0_v196 p3) (f0_v208 p3) (0 : Int32) (0 : Int64) (0 : Int32) (0 : Int32))) := c196.keep K214 (ninS ne_b81_b153 (ninS ne_b81_r183_0 (ninS ne_b81_r183_1 (ninS ne_b81_r183_2 (ninS ne_b81_r183_3 (ninS ne_b81_r183_4 (ninS ne_b81_r183_5 nin0)))))))
      have c228 : Fld Z T214.heap b81 "com/example/podflow/podflow/simulation/Pickup" "emptyFrom" "I" (.int (f2_o2 (f0_v184 p3) (0 : Int64) (f0_v196 p3) (f0_v208 p3) (0 : Int32) (0 : Int64) (0 : Int32) (0 : Int32))) := c197.keep K214 (ninS ne_b81_b153 (ninS ne_b81_r183_0 (ninS ne_b81_r183_1 (ninS ne_b81_r183_2 (ninS ne_b81_r183_3 (ninS ne_b81_r183_4 (ninS ne_b81_r183_5 nin0)))))))
      have c229 : Fld Z T214.heap b81 "com/example/podflow/podflow/simulation/Pickup" "emptyTo" "I" (.int (f2_o3 (f0_v184 p3) (0 : Int64) (f0_v196 p3) (f0_v208 p3) (0 : Int32) (0 : Int64) (0 : Int32) (0 : Int32))) := c198.keep K214 (ninS ne_b81_b153 (ninS ne_b81_r183_0 (ninS ne_b81_r183_1 (ninS ne_b81_r183_2 (ninS ne_b81_r183_3 (ninS ne_b81_r183_4 (ninS ne_b81_r183_5 nin0)))))))
      have c230 : Exa Z T214.heap b112 "com/example/podflow/podflow/simulation/Pickup" := c199.keep K214
      have c231 : Fld Z T214.heap b112 "com/example/podflow/podflow/simulation/Pickup" "vehicle" "I" (.int (f2_o0 (f0_v217 p4) (0 : Int64) (f0_v229 p4) (f0_v241 p4) (0 : Int32) (0 : Int64) (0 : Int32) (0 : Int32))) := c200.keep K214 (ninS ne_b112_b153 (ninS ne_b112_r183_0 (ninS ne_b112_r183_1 (ninS ne_b112_r183_2 (ninS ne_b112_r183_3 (ninS ne_b112_r183_4 (ninS ne_b112_r183_5 nin0)))))))
      have c232 : Fld Z T214.heap b112 "com/example/podflow/podflow/simulation/Pickup" "time" "J" (.long (f2_o1 (f0_v217 p4) (0 : Int64) (f0_v229 p4) (f0_v241 p4) (0 : Int32) (0 : Int64) (0 : Int32) (0 : Int32))) := c201.keep K214 (ninS ne_b112_b153 (ninS ne_b112_r183_0 (ninS ne_b112_r183_1 (ninS ne_b112_r183_2 (ninS ne_b112_r183_3 (ninS ne_b112_r183_4 (ninS ne_b112_r183_5 nin0)))))))
      have c233 : Fld Z T214.heap b112 "com/example/podflow/podflow/simulation/Pickup" "emptyFrom" "I" (.int (f2_o2 (f0_v217 p4) (0 : Int64) (f0_v229 p4) (f0_v241 p4) (0 : Int32) (0 : Int64) (0 : Int32) (0 : Int32))) := c202.keep K214 (ninS ne_b112_b153 (ninS ne_b112_r183_0 (ninS ne_b112_r183_1 (ninS ne_b112_r183_2 (ninS ne_b112_r183_3 (ninS ne_b112_r183_4 (ninS ne_b112_r183_5 nin0)))))))
      have c234 : Fld Z T214.heap b112 "com/example/podflow/podflow/simulation/Pickup" "emptyTo" "I" (.int (f2_o3 (f0_v217 p4) (0 : Int64) (f0_v229 p4) (f0_v241 p4) (0 : Int32) (0 : Int64) (0 : Int32) (0 : Int32))) := c203.keep K214 (ninS ne_b112_b153 (ninS ne_b112_r183_0 (ninS ne_b112_r183_1 (ninS ne_b112_r183_2 (ninS ne_b112_r183_3 (ninS ne_b112_r183_4 (ninS ne_b112_r183_5 nin0)))))))
      have c235 : Exa Z T214.heap b153 "com/example/podflow/podflow/simulation/Ballot" := c204.keep K214
      have c236 : Fld Z T214.heap b153 "com/example/podflow/podflow/simulation/Ballot" "idleAt" "[I" (.ref b6) := o214_0
      have c237 : Fld Z T214.heap b153 "com/example/podflow/podflow/simulation/Ballot" "idleCount" "[I" (.ref b18) := o214_1
      have c238 : Fld Z T214.heap b153 "com/example/podflow/podflow/simulation/Ballot" "open" "[Z" (.ref r183_0) := o214_2
      have c239 : Fld Z T214.heap b153 "com/example/podflow/podflow/simulation/Ballot" "served" "[I" (.ref r183_1) := o214_3
      have c240 : Fld Z T214.heap b153 "com/example/podflow/podflow/simulation/Ballot" "servedHome" "[I" (.ref r183_2) := o214_4
      have c241 : Fld Z T214.heap b153 "com/example/podflow/podflow/simulation/Ballot" "ownLeaving" "[I" (.ref r183_3) := o214_5
      have c242 : Fld Z T214.heap b153 "com/example/podflow/podflow/simulation/Ballot" "anyLeaving" "[I" (.ref r183_4) := o214_6
      have c243 : Fld Z T214.heap b153 "com/example/podflow/podflow/simulation/Ballot" "counted" "[Z" (.ref r183_5) := o214_7
      have c244 : Fld Z T214.heap b153 "com/example/podflow/podflow/simulation/Ballot" "unsettled" "I" (.int (f8_o8 (f2_o0 (f0_v151 p2) (0 : Int64) (f0_v163 p2) (f0_v175 p2) (0 : Int32) (0 : Int64) (0 : Int32) (0 : Int32)) (f2_o2 (f0_v151 p2) (0 : Int64) (f0_v163 p2) (f0_v175 p2) (0 : Int32) (0 : Int64) (0 : Int32) (0 : Int32)) (f2_o3 (f0_v151 p2) (0 : Int64) (f0_v163 p2) (f0_v175 p2) (0 : Int32) (0 : Int64) (0 : Int32) (0 : Int32)) (f5_o2 (0 : Int32) (3 : Int32) (f0_v42 p1) (3 : Int32) (f0_v86 p1) (3 : Int32) (f0_v142 p1)) (3 : Int32) (f0_v42 p1) (3 : Int32) (f0_v86 p1) (f5_x0n (0 : Int32) (3 : Int32) (f0_v42 p1) (3 : Int32) (f0_v86 p1) (3 : Int32) (f0_v142 p1)) (f5_x0c (0 : Int32) (3 : Int32) (f0_v42 p1) (3 : Int32) (f0_v86 p1) (3 : Int32) (f0_v142 p1)) (f5_x1n (0 : Int32) (3 : Int32) (f0_v42 p1) (3 : Int32) (f0_v86 p1) (3 : Int32) (f0_v142 p1)) (f5_x1c (0 : Int32) (3 : Int32) (f0_v42 p1) (3 : Int32) (f0_v86 p1) (3 : Int32) (f0_v142 p1)) (f5_x2n (0 : Int32) (3 : Int32) (f0_v42 p1) (3 : Int32) (f0_v86 p1) (3 : Int32) (f0_v142 p1)) (f5_x2c (0 : Int32) (3 : Int32) (f0_v42 p1) (3 : Int32) (f0_v86 p1) (3 : Int32) (f0_v142 p1)) (f5_x3n (0 : Int32) (3 : Int32) (f0_v42 p1) (3 : Int32) (f0_v86 p1) (3 : Int32) (f0_v142 p1)) (f5_x3c (0 : Int32) (3 : Int32) (f0_v42 p1) (3 : Int32) (f0_v86 p1) (3 : Int32) (f0_v142 p1)) (f5_x4n (0 : Int32) (3 : Int32) (f0_v42 p1) (3 : Int32) (f0_v86 p1) (3 : Int32) (f0_v142 p1)) (f5_x4c (0 : Int32) (3 : Int32) (f0_v42 p1) (3 : Int32) (f0_v86 p1) (3 : Int32) (f0_v142 p1)) (f5_x5n (0 : Int32) (3 : Int32) (f0_v42 p1) (3 : Int32) (f0_v86 p1) (3 : Int32) (f0_v142 p1)) (f5_x5c (0 : Int32) (3 : Int32) (f0_v42 p1) (3 : Int32) (f0_v86 p1) (3 : Int32) (f0_v142 p1)))) := o214_8
      have c245 : IAr Z T214.heap r183_0 .boolean (f5_x0n (0 : Int32) (3 : Int32) (f0_v42 p1) (3 : Int32) (f0_v86 p1) (3 : Int32) (f0_v142 p1)) (f8_o9 (f2_o0 (f0_v151 p2) (0 : Int64) (f0_v163 p2) (f0_v175 p2) (0 : Int32) (0 : Int64) (0 : Int32) (0 : Int32)) (f2_o2 (f0_v151 p2) (0 : Int64) (f0_v163 p2) (f0_v175 p2) (0 : Int32) (0 : Int64) (0 : Int32) (0 : Int32)) (f2_o3 (f0_v151 p2) (0 : Int64) (f0_v163 p2) (f0_v175 p2) (0 : Int32) (0 : Int64) (0 : Int32) (0 : Int32)) (f5_o2 (0 : Int32) (3 : Int32) (f0_v42 p1) (3 : Int32) (f0_v86 p1) (3 : Int32) (f0_v142 p1)) (3 : Int32) (f0_v42 p1) (3 : Int32) (f0_v86 p1) (f5_x0n (0 : Int32) (3 : Int32) (f0_v42 p1) (3 : Int32) (f0_v86 p1) (3 : Int32) (f0_v142 p1)) (f5_x0c (0 : Int32) (3 : Int32) (f0_v42 p1) (3 : Int32) (f0_v86 p1) (3 : Int32) (f0_v142 p1)) (f5_x1n (0 : Int32) (3 : Int32) (f0_v42 p1) (3 : Int32) (f0_v86 p1) (3 : Int32) (f0_v142 p1)) (f5_x1c (0 : Int32) (3 : Int32) (f0_v42 p1) (3 : Int32) (f0_v86 p1) (3 : Int32) (f0_v142 p1)) (f5_x2n (0 : Int32) (3 : Int32) (f0_v42 p1) (3 : Int32) (f0_v86 p1) (3 : Int32) (f0_v142 p1)) (f5_x2c (0 : Int32) (3 : Int32) (f0_v42 p1) (3 : Int32) (f0_v86 p1) (3 : Int32) (f0_v142 p1)) (f5_x3n (0 : Int32) (3 : Int32) (f0_v42 p1) (3 : Int32) (f0_v86 p1) (3 : Int32) (f0_v142 p1)) (f5_x3c (0 : Int32) (3 : Int32) (f0_v42 p1) (3 : Int32) (f0_v86 p1) (3 : Int32) (f0_v142 p1)) (f5_x4n (0 : Int32) (3 : Int32) (f0_v42 p1) (3 : Int32) (f0_v86 p1) (3 : Int32) (f0_v142 p1)) (f5_x4c (0 : Int32) (3 : Int32) (f0_v42 p1) (3 : Int32) (f0_v86 p1) (3 : Int32) (f0_v142 p1)) (f5_x5n (0 : Int32) (3 : Int32) (f0_v42 p1) (3 : Int32) (f0_v86 p1) (3 : Int32) (f0_v142 p1)) (f5_x5c (0 : Int32) (3 : Int32) (f0_v42 p1) (3 : Int32) (f0_v86 p1) (3 : Int32) (f0_v142 p1))) := o214_9
      have c246 : IAr Z T214.heap r183_1 .int (f5_x1n (0 : Int32) (3 : Int32) (f0_v42 p1) (3 : Int32) (f0_v86 p1) (3 : Int32) (f0_v142 p1)) (f8_o10 (f2_o0 (f0_v151 p2) (0 : Int64) (f0_v163 p2) (f0_v175 p2) (0 : Int32) (0 : Int64) (0 : Int32) (0 : Int32)) (f2_o2 (f0_v151 p2) (0 : Int64) (f0_v163 p2) (f0_v175 p2) (0 : Int32) (0 : Int64) (0 : Int32) (0 : Int32)) (f2_o3 (f0_v151 p2) (0 : Int64) (f0_v163 p2) (f0_v175 p2) (0 : Int32) (0 : Int64) (0 : Int32) (0 : Int32)) (f5_o2 (0 : Int32) (3 : Int32) (f0_v42 p1) (3 : Int32) (f0_v86 p1) (3 : Int32) (f0_v142 p1)) (3 : Int32) (f0_v42 p1) (3 : Int32) (f0_v86 p1) (f5_x0n (0 : Int32) (3 : Int32) (f0_v42 p1) (3 : Int32) (f0_v86 p1) (3 : Int32) (f0_v142 p1)) (f5_x0c (0 : Int32) (3 : Int32) (f0_v42 p1) (3 : Int32) (f0_v86 p1) (3 : Int32) (f0_v142 p1)) (f5_x1n (0 : Int32) (3 : Int32) (f0_v42 p1) (3 : Int32) (f0_v86 p1) (3 : Int32) (f0_v142 p1)) (f5_x1c (0 : Int32) (3 : Int32) (f0_v42 p1) (3 : Int32) (f0_v86 p1) (3 : Int32) (f0_v142 p1)) (f5_x2n (0 : Int32) (3 : Int32) (f0_v42 p1) (3 : Int32) (f0_v86 p1) (3 : Int32) (f0_v142 p1)) (f5_x2c (0 : Int32) (3 : Int32) (f0_v42 p1) (3 : Int32) (f0_v86 p1) (3 : Int32) (f0_v142 p1)) (f5_x3n (0 : Int32) (3 : Int32) (f0_v42 p1) (3 : Int32) (f0_v86 p1) (3 : Int32) (f0_v142 p1)) (f5_x3c (0 : Int32) (3 : Int32) (f0_v42 p1) (3 : Int32) (f0_v86 p1) (3 : Int32) (f0_v142 p1)) (f5_x4n (0 : Int32) (3 : Int32) (f0_v42 p1) (3 : Int32) (f0_v86 p1) (3 : Int32) (f0_v142 p1)) (f5_x4c (0 : Int32) (3 : Int32) (f0_v42 p1) (3 : Int32) (f0_v86 p1) (3 : Int32) (f0_v142 p1)) (f5_x5n (0 : Int32) (3 : Int32) (f0_v42 p1) (3 : Int32) (f0_v86 p1) (3 : Int32) (f0_v142 p1)) (f5_x5c (0 : Int32) (3 : Int32) (f0_v42 p1) (3 : Int32) (f0_v86 p1) (3 : Int32) (f0_v142 p1))) := o214_10
      have c247 : IAr Z T214.heap r183_2 .int (f5_x2n (0 : Int32) (3 : Int32) (f0_v42 p1) (3 : Int32) (f0_v86 p1) (3 : Int32) (f0_v142 p1)) (f8_o11 (f2_o0 (f0_v151 p2) (0 : Int64) (f0_v163 p2) (f0_v175 p2) (0 : Int32) (0 : Int64) (0 : Int32) (0 : Int32)) (f2_o2 (f0_v151 p2) (0 : Int64) (f0_v163 p2) (f0_v175 p2) (0 : Int32) (0 : Int64) (0 : Int32) (0 : Int32)) (f2_o3 (f0_v151 p2) (0 : Int64) (f0_v163 p2) (f0_v175 p2) (0 : Int32) (0 : Int64) (0 : Int32) (0 : Int32)) (f5_o2 (0 : Int32) (3 : Int32) (f0_v42 p1) (3 : Int32) (f0_v86 p1) (3 : Int32) (f0_v142 p1)) (3 : Int32) (f0_v42 p1) (3 : Int32) (f0_v86 p1) (f5_x0n (0 : Int32) (3 : Int32) (f0_v42 p1) (3 : Int32) (f0_v86 p1) (3 : Int32) (f0_v142 p1)) (f5_x0c (0 : Int32) (3 : Int32) (f0_v42 p1) (3 : Int32) (f0_v86 p1) (3 : Int32) (f0_v142 p1)) (f5_x1n (0 : Int32) (3 : Int32) (f0_v42 p1) (3 : Int32) (f0_v86 p1) (3 : Int32) (f0_v142 p1)) (f5_x1c (0 : Int32) (3 : Int32) (f0_v42 p1) (3 : Int32) (f0_v86 p1) (3 : Int32) (f0_v142 p1)) (f5_x2n (0 : Int32) (3 : Int32) (f0_v42 p1) (3 : Int32) (f0_v86 p1) (3 : Int32) (f0_v142 p1)) (f5_x2c (0 : Int32) (3 : Int32) (f0_v42 p1) (3 : Int32) (f0_v86 p1) (3 : Int32) (f0_v142 p1)) (f5_x3n (0 : Int32) (3 : Int32) (f0_v42 p1) (3 : Int32) (f0_v86 p1) (3 : Int32) (f0_v142 p1)) (f5_x3c (0 : Int32) (3 : Int32) (f0_v42 p1) (3 : Int32) (f0_v86 p1) (3 : Int32) (f0_v142 p1)) (f5_x4n (0 : Int32) (3 : Int32) (f0_v42 p1) (3 : Int32) (f0_v86 p1) (3 : Int32) (f0_v142 p1)) (f5_x4c (0 : Int32) (3 : Int32) (f0_v42 p1) (3 : Int32) (f0_v86 p1) (3 : Int32) (f0_v142 p1)) (f5_x5n (0 : Int32) (3 : Int32) (f0_v42 p1) (3 : Int32) (f0_v86 p1) (3 : Int32) (f0_v142 p1)) (f5_x5c (0 : Int32) (3 : Int32) (f0_v42 p1) (3 : Int32) (f0_v86 p1) (3 : Int32) (f0_v142 p1))) := o214_11
      have c248 : IAr Z T214.heap r183_3 .int (f5_x3n (0 : Int32) (3 : Int32) (f0_v42 p1) (3 : Int32) (f0_v86 p1) (3 : Int32) (f0_v142 p1)) (f8_o12 (f2_o0 (f0_v151 p2) (0 : Int64) (f0_v163 p2) (f0_v175 p2) (0 : Int32) (0 : Int64) (0 : Int32) (0 : Int32)) (f2_o2 (f0_v151 p2) (0 : Int64) (f0_v163 p2) (f0_v175 p2) (0 : Int32) (0 : Int64) (0 : Int32) (0 : Int32)) (f2_o3 (f0_v151 p2) (0 : Int64) (f0_v163 p2) (f0_v175 p2) (0 : Int32) (0 : Int64) (0 : Int32) (0 : Int32)) (f5_o2 (0 : Int32) (3 : Int32) (f0_v42 p1) (3 : Int32) (f0_v86 p1) (3 : Int32) (f0_v142 p1)) (3 : Int32) (f0_v42 p1) (3 : Int32) (f0_v86 p1) (f5_x0n (0 : Int32) (3 : Int32) (f0_v42 p1) (3 : Int32) (f0_v86 p1) (3 : Int32) (f0_v142 p1)) (f5_x0c (0 : Int32) (3 : Int32) (f0_v42 p1) (3 : Int32) (f0_v86 p1) (3 : Int32) (f0_v142 p1)) (f5_x1n (0 : Int32) (3 : Int32) (f0_v42 p1) (3 : Int32) (f0_v86 p1) (3 : Int32) (f0_v142 p1)) (f5_x1c (0 : Int32) (3 : Int32) (f0_v42 p1) (3 : Int32) (f0_v86 p1) (3 : Int32) (f0_v142 p1)) (f5_x2n (0 : Int32) (3 : Int32) (f0_v42 p1) (3 : Int32) (f0_v86 p1) (3 : Int32) (f0_v142 p1)) (f5_x2c (0 : Int32) (3 : Int32) (f0_v42 p1) (3 : Int32) (f0_v86 p1) (3 : Int32) (f0_v142 p1)) (f5_x3n (0 : Int32) (3 : Int32) (f0_v42 p1) (3 : Int32) (f0_v86 p1) (3 : Int32) (f0_v142 p1)) (f5_x3c (0 : Int32) (3 : Int32) (f0_v42 p1) (3 : Int32) (f0_v86 p1) (3 : Int32) (f0_v142 p1)) (f5_x4n (0 : Int32) (3 : Int32) (f0_v42 p1) (3 : Int32) (f0_v86 p1) (3 : Int32) (f0_v142 p1)) (f5_x4c (0 : Int32) (3 : Int32) (f0_v42 p1) (3 : Int32) (f0_v86 p1) (3 : Int32) (f0_v142 p1)) (f5_x5n (0 : Int32) (3 : Int32) (f0_v42 p1) (3 : Int32) (f0_v86 p1) (3 : Int32) (f0_v142 p1)) (f5_x5c (0 : Int32) (3 : Int32) (f0_v42 p1) (3 : Int32) (f0_v86 p1) (3 : Int32) (f0_v142 p1))) := o214_12
      have c249 : IAr Z T214.heap r183_4 .int (f5_x4n (0 : Int32) (3 : Int32) (f0_v42 p1) (3 : Int32) (f0_v86 p1) (3 : Int32) (f0_v142 p1)) (f8_o13 (f2_o0 (f0_v151 p2) (0 : Int64) (f0_v163 p2) (f0_v175 p2) (0 : Int32) (0 : Int64) (0 : Int32) (0 : Int32)) (f2_o2 (f0_v151 p2) (0 : Int64) (f0_v163 p2) (f0_v175 p2) (0 : Int32) (0 : Int64) (0 : Int32) (0 : Int32)) (f2_o3 (f0_v151 p2) (0 : Int64) (f0_v163 p2) (f0_v175 p2) (0 : Int32) (0 : Int64) (0 : Int32) (0 : Int32)) (f5_o2 (0 : Int32) (3 : Int32) (f0_v42 p1) (3 : Int32) (f0_v86 p1) (3 : Int32) (f0_v142 p1)) (3 : Int32) (f0_v42 p1) (3 : Int32) (f0_v86 p1) (f5_x0n (0 : Int32) (3 : Int32) (f0_v42 p1) (3 : Int32) (f0_v86 p1) (3 : Int32) (f0_v142 p1)) (f5_x0c (0 : Int32) (3 : Int32) (f0_v42 p1) (3 : Int32) (f0_v86 p1) (3 : Int32) (f0_v142 p1)) (f5_x1n (0 : Int32) (3 : Int32) (f0_v42 p1) (3 : Int32) (f0_v86 p1) (3 : Int32) (f0_v142 p1)) (f5_x1c (0 : Int32) (3 : Int32) (f0_v42 p1) (3 : Int32) (f0_v86 p1) (3 : Int32) (f0_v142 p1)) (f5_x2n (0 : Int32) (3 : Int32) (f0_v42 p1) (3 : Int32) (f0_v86 p1) (3 : Int32) (f0_v142 p1)) (f5_x2c (0 : Int32) (3 : Int32) (f0_v42 p1) (3 : Int32) (f0_v86 p1) (3 : Int32) (f0_v142 p1)) (f5_x3n (0 : Int32) (3 : Int32) (f0_v42 p1) (3 : Int32) (f0_v86 p1) (3 : Int32) (f0_v142 p1)) (f5_x3c (0 : Int32) (3 : Int32) (f0_v42 p1) (3 : Int32) (f0_v86 p1) (3 : Int32) (f0_v142 p1)) (f5_x4n (0 : Int32) (3 : Int32) (f0_v42 p1) (3 : Int32) (f0_v86 p1) (3 : Int32) (f0_v142 p1)) (f5_x4c (0 : Int32) (3 : Int32) (f0_v42 p1) (3 : Int32) (f0_v86 p1) (3 : Int32) (f0_v142 p1)) (f5_x5n (0 : Int32) (3 : Int32) (f0_v42 p1) (3 : Int32) (f0_v86 p1) (3 : Int32) (f0_v142 p1)) (f5_x5c (0 : Int32) (3 : Int32) (f0_v42 p1) (3 : Int32) (f0_v86 p1) (3 : Int32) (f0_v142 p1))) := o214_13
      have c250 : IAr Z T214.heap r183_5 .boolean (f5_x5n (0 : Int32) (3 : Int32) (f0_v42 p1) (3 : Int32) (f0_v86 p1) (3 : Int32) (f0_v142 p1)) (f8_o14 (f2_o0 (f0_v151 p2) (0 : Int64) (f0_v163 p2) (f0_v175 p2) (0 : Int32) (0 : Int64) (0 : Int32) (0 : Int32)) (f2_o2 (f0_v151 p2) (0 : Int64) (f0_v163 p2) (f0_v175 p2) (0 : Int32) (0 : Int64) (0 : Int32) (0 : Int32)) (f2_o3 (f0_v151 p2) (0 : Int64) (f0_v163 p2) (f0_v175 p2) (0 : Int32) (0 : Int64) (0 : Int32) (0 : Int32)) (f5_o2 (0 : Int32) (3 : Int32) (f0_v42 p1) (3 : Int32) (f0_v86 p1) (3 : Int32) (f0_v142 p1)) (3 : Int32) (f0_v42 p1) (3 : Int32) (f0_v86 p1) (f5_x0n (0 : Int32) (3 : Int32) (f0_v42 p1) (3 : Int32) (f0_v86 p1) (3 : Int32) (f0_v142 p1)) (f5_x0c (0 : Int32) (3 : Int32) (f0_v42 p1) (3 : Int32) (f0_v86 p1) (3 : Int32) (f0_v142 p1)) (f5_x1n (0 : Int32) (3 : Int32) (f0_v42 p1) (3 : Int32) (f0_v86 p1) (3 : Int32) (f0_v142 p1)) (f5_x1c (0 : Int32) (3 : Int32) (f0_v42 p1) (3 : Int32) (f0_v86 p1) (3 : Int32) (f0_v142 p1)) (f5_x2n (0 : Int32) (3 : Int32) (f0_v42 p1) (3 : Int32) (f0_v86 p1) (3 : Int32) (f0_v142 p1)) (f5_x2c (0 : Int32) (3 : Int32) (f0_v42 p1) (3 : Int32) (f0_v86 p1) (3 : Int32) (f0_v142 p1)) (f5_x3n (0 : Int32) (3 : Int32) (f0_v42 p1) (3 : Int32) (f0_v86 p1) (3 : Int32) (f0_v142 p1)) (f5_x3c (0 : Int32) (3 : Int32) (f0_v42 p1) (3 : Int32) (f0_v86 p1) (3 : Int32) (f0_v142 p1)) (f5_x4n (0 : Int32) (3 : Int32) (f0_v42 p1) (3 : Int32) (f0_v86 p1) (3 : Int32) (f0_v142 p1)) (f5_x4c (0 : Int32) (3 : Int32) (f0_v42 p1) (3 : Int32) (f0_v86 p1) (3 : Int32) (f0_v142 p1)) (f5_x5n (0 : Int32) (3 : Int32) (f0_v42 p1) (3 : Int32) (f0_v86 p1) (3 : Int32) (f0_v142 p1)) (f5_x5c (0 : Int32) (3 : Int32) (f0_v42 p1) (3 : Int32) (f0_v86 p1) (3 : Int32) (f0_v142 p1))) := o214_14
      have eq34 := (show (f0_F_unsettled_b153_377 p1 p2 p5) = (f8_o8 (f2_o0 (f0_v151 p2) (0 : Int64) (f0_v163 p2) (f0_v175 p2) (0 : Int32) (0 : Int64) (0 : Int32) (0 : Int32)) (f2_o2 (f0_v151 p2) (0 : Int64) (f0_v163 p2) (f0_v175 p2) (0 : Int32) (0 : Int64) (0 : Int32) (0 : Int32)) (f2_o3 (f0_v151 p2) (0 : Int64) (f0_v163 p2) (f0_v175 p2) (0 : Int32) (0 : Int64) (0 : Int32) (0 : Int32)) (f5_o2 (0 : Int32) (3 : Int32) (f0_v42 p1) (3 : Int32) (f0_v86 p1) (3 : Int32) (f0_v142 p1)) (3 : Int32) (f0_v42 p1) (3 : Int32) (f0_v86 p1) (f5_x0n (0 : Int32) (3 : Int32) (f0_v42 p1) (3 : Int32) (f0_v86 p1) (3 : Int32) (f0_v142 p1)) (f5_x0c (0 : Int32) (3 : Int32) (f0_v42 p1) (3 : Int32) (f0_v86 p1) (3 : Int32) (f0_v142 p1)) (f5_x1n (0 : Int32) (3 : Int32) (f0_v42 p1) (3 : Int32) (f0_v86 p1) (3 : Int32) (f0_v142 p1)) (f5_x1c (0 : Int32) (3 : Int32) (f0_v42 p1) (3 : Int32) (f0_v86 p1) (3 : Int32) (f0_v142 p1)) (f5_x2n (0 : Int32) (3 : Int32) (f0_v42 p1) (3 : Int32) (f0_v86 p1) (3 : Int32) (f0_v142 p1)) (f5_x2c (0 : Int32) (3 : Int32) (f0_v42 p1) (3 : Int32) (f0_v86 p1) (3 : Int32) (f0_v142 p1)) (f5_x3n (0 : Int32) (3 : Int32) (f0_v42 p1) (3 : Int32) (f0_v86 p1) (3 : Int32) (f0_v142 p1)) (f5_x3c (0 : Int32) (3 : Int32) (f0_v42 p1) (3 : Int32) (f0_v86 p1) (3 : Int32) (f0_v142 p1)) (f5_x4n (0 : Int32) (3 : Int32) (f0_v42 p1) (3 : Int32) (f0_v86 p1) (3 : Int32) (f0_v142 p1)) (f5_x4c (0 : Int32) (3 : Int32) (f0_v42 p1) (3 : Int32) (f0_v86 p1) (3 : Int32) (f0_v142 p1)) (f5_x5n (0 : Int32) (3 : Int32) (f0_v42 p1) (3 : Int32) (f0_v86 p1) (3 : Int32) (f0_v142 p1)) (f5_x5c (0 : Int32) (3 : Int32) (f0_v42 p1) (3 : Int32) (f0_v86 p1) (3 : Int32) (f0_v142 p1))) from by unfold f0_F_unsettled_b153_377; simp only [if_neg hc367])
      have eq35 := (show (f0_A_r183_0_377 p1 p2 p5) = (f8_o9 (f2_o0 (f0_v151 p2) (0 : Int64) (f0_v163 p2) (f0_v175 p2) (0 : Int32) (0 : Int64) (0 : Int32) (0 : Int32)) (f2_o2 (f0_v151 p2) (0 : Int64) (f0_v163 p2) (f0_v175 p2) (0 : Int32) (0 : Int64) (0 : Int32) (0 : Int32)) (f2_o3 (f0_v151 p2) (0 : Int64) (f0_v163 p2) (f0_v175 p2) (0 : Int32) (0 : Int64) (0 : Int32) (0 : Int32)) (f5_o2 (0 : Int32) (3 : Int32) (f0_v42 p1) (3 : Int32) (f0_v86 p1) (3 : Int32) (f0_v142 p1)) (3 : Int32) (f0_v42 p1) (3 : Int32) (f0_v86 p1) (f5_x0n (0 : Int32) (3 : Int32) (f0_v42 p1) (3 : Int32) (f0_v86 p1) (3 : Int32) (f0_v142 p1)) (f5_x0c (0 : Int32) (3 : Int32) (f0_v42 p1) (3 : Int32) (f0_v86 p1) (3 : Int32) (f0_v142 p1)) (f5_x1n (0 : Int32) (3 : Int32) (f0_v42 p1) (3 : Int32) (f0_v86 p1) (3 : Int32) (f0_v142 p1)) (f5_x1c (0 : Int32) (3 : Int32) (f0_v42 p1) (3 : Int32) (f0_v86 p1) (3 : Int32) (f0_v142 p1)) (f5_x2n (0 : Int32) (3 : Int32) (f0_v42 p1) (3 : Int32) (f0_v86 p1) (3 : Int32) (f0_v142 p1)) (f5_x2c (0 : Int32) (3 : Int32) (f0_v42 p1) (3 : Int32) (f0_v86 p1) (3 : Int32) (f0_v142 p1)) (f5_x3n (0 : Int32) (3 : Int32) (f0_v42 p1) (3 : Int32) (f0_v86 p1) (3 : Int32) (f0_v142 p1)) (f5_x3c (0 : Int32) (3 : Int32) (f0_v42 p1) (3 : Int32) (f0_v86 p1) (3 : Int32) (f0_v142 p1)) (f5_x4n (0 : Int32) (3 : Int32) (f0_v42 p1) (3 : Int32) (f0_v86 p1) (3 : Int32) (f0_v142 p1)) (f5_x4c (0 : Int32) (3 : Int32) (f0_v42 p1) (3 : Int32) (f0_v86 p1) (3 : Int32) (f0_v142 p1)) (f5_x5n (0 : Int32) (3 : Int32) (f0_v42 p1) (3 : Int32) (f0_v86 p1) (3 : Int32) (f0_v142 p1)) (f5_x5c (0 : Int32) (3 : Int32) (f0_v42 p1) (3 : Int32) (f0_v86 p1) (3 : Int32) (f0_v142 p1))) from by unfold f0_A_r183_0_377; simp only [if_neg hc367])
      have eq36 := (show (f0_A_r183_1_377 p1 p2 p5) = (f8_o10 (f2_o0 (f0_v151 p2) (0 : Int64) (f0_v163 p2) (f0_v175 p2) (0 : Int32) (0 : Int64) (0 : Int32) (0 : Int32)) (f2_o2 (f0_v151 p2) (0 : Int64) (f0_v163 p2) (f0_v175 p2) (0 : Int32) (0 : Int64) (0 : Int32) (0 : Int32)) (f2_o3 (f0_v151 p2) (0 : Int64) (f0_v163 p2) (f0_v175 p2) (0 : Int32) (0 : Int64) (0 : Int32) (0 : Int32)) (f5_o2 (0 : Int32) (3 : Int32) (f0_v42 p1) (3 : Int32) (f0_v86 p1) (3 : Int32) (f0_v142 p1)) (3 : Int32) (f0_v42 p1) (3 : Int32) (f0_v86 p1) (f5_x0n (0 : Int32) (3 : Int32) (f0_v42 p1) (3 : Int32) (f0_v86 p1) (3 : Int32) (f0_v142 p1)) (f5_x0c (0 : Int32) (3 : Int32) (f0_v42 p1) (3 : Int32) (f0_v86 p1) (3 : Int32) (f0_v142 p1)) (f5_x1n (0 : Int32) (3 : Int32) (f0_v42 p1) (3 : Int32) (f0_v86 p1) (3 : Int32) (f0_v142 p1)) (f5_x1c (0 : Int32) (3 : Int32) (f0_v42 p1) (3 : Int32) (f0_v86 p1) (3 : Int32) (f0_v142 p1)) (f5_x2n (0 : Int32) (3 : Int32) (f0_v42 p1) (3 : Int32) (f0_v86 p1) (3 : Int32) (f0_v142 p1)) (f5_x2c (0 : Int32) (3 : Int32) (f0_v42 p1) (3 : Int32) (f0_v86 p1) (3 : Int32) (f0_v142 p1)) (f5_x3n (0 : Int32) (3 : Int32) (f0_v42 p1) (3 : Int32) (f0_v86 p1) (3 : Int32) (f0_v142 p1)) (f5_x3c (0 : Int32) (3 : Int32) (f0_v42 p1) (3 : Int32) (f0_v86 p1) (3 : Int32) (f0_v142 p1)) (f5_x4n (0 : Int32) (3 : Int32) (f0_v42 p1) (3 : Int32) (f0_v86 p1) (3 : Int32) (f0_v142 p1)) (f5_x4c (0 : Int32) (3 : Int32) (f0_v42 p1) (3 : Int32) (f0_v86 p1) (3 : Int32) (f0_v142 p1)) (f5_x5n (0 : Int32) (3 : Int32) (f0_v42 p1) (3 : Int32) (f0_v86 p1) (3 : Int32) (f0_v142 p1)) (f5_x5c (0 : Int32) (3 : Int32) (f0_v42 p1) (3 : Int32) (f0_v86 p1) (3 : Int32) (f0_v142 p1))) from by unfold f0_A_r183_1_377; simp only [if_neg hc367])
      have eq37 := (show (f0_A_r183_2_377 p1 p2 p5) = (f8_o11 (f2_o0 (f0_v151 p2) (0 : Int64) (f0_v163 p2) (f0_v175 p2) (0 : Int32) (0 : Int64) (0 : Int32) (0 : Int32)) (f2_o2 (f0_v151 p2) (0 : Int64) (f0_v163 p2) (f0_v175 p2) (0 : Int32) (0 : Int64) (0 : Int32) (0 : Int32)) (f2_o3 (f0_v151 p2) (0 : Int64) (f0_v163 p2) (f0_v175 p2) (0 : Int32) (0 : Int64) (0 : Int32) (0 : Int32)) (f5_o2 (0 : Int32) (3 : Int32) (f0_v42 p1) (3 : Int32) (f0_v86 p1) (3 : Int32) (f0_v142 p1)) (3 : Int32) (f0_v42 p1) (3 : Int32) (f0_v86 p1) (f5_x0n (0 : Int32) (3 : Int32) (f0_v42 p1) (3 : Int32) (f0_v86 p1) (3 : Int32) (f0_v142 p1)) (f5_x0c (0 : Int32) (3 : Int32) (f0_v42 p1) (3 : Int32) (f0_v86 p1) (3 : Int32) (f0_v142 p1)) (f5_x1n (0 : Int32) (3 : Int32) (f0_v42 p1) (3 : Int32) (f0_v86 p1) (3 : Int32) (f0_v142 p1)) (f5_x1c (0 : Int32) (3 : Int32) (f0_v42 p1) (3 : Int32) (f0_v86 p1) (3 : Int32) (f0_v142 p1)) (f5_x2n (0 : Int32) (3 : Int32) (f0_v42 p1) (3 : Int32) (f0_v86 p1) (3 : Int32) (f0_v142 p1)) (f5_x2c (0 : Int32) (3 : Int32) (f0_v42 p1) (3 : Int32) (f0_v86 p1) (3 : Int32) (f0_v142 p1)) (f5_x3n (0 : Int32) (3 : Int32) (f0_v42 p1) (3 : Int32) (f0_v86 p1) (3 : Int32) (f0_v142 p1)) (f5_x3c (0 : Int32) (3 : Int32) (f0_v42 p1) (3 : Int32) (f0_v86 p1) (3 : Int32) (f0_v142 p1)) (f5_x4n (0 : Int32) (3 : Int32) (f0_v42 p1) (3 : Int32) (f0_v86 p1) (3 : Int32) (f0_v142 p1)) (f5_x4c (0 : Int32) (3 : Int32) (f0_v42 p1) (3 : Int32) (f0_v86 p1) (3 : Int32) (f0_v142 p1)) (f5_x5n (0 : Int32) (3 : Int32) (f0_v42 p1) (3 : Int32) (f0_v86 p1) (3 : Int32) (f0_v142 p1)) (f5_x5c (0 : Int32) (3 : Int32) (f0_v42 p1) (3 : Int32) (f0_v86 p1) (3 : Int32) (f0_v142 p1))) from by unfold f0_A_r183_2_377; simp only [if_neg hc367])
      have eq38 := (show (f0_A_r183_3_377 p1 p2 p5) = (f8_o12 (f2_o0 (f0_v151 p2) (0 : Int64) (f0_v163 p2) (f0_v175 p2) (0 : Int32) (0 : Int64) (0 : Int32) (0 : Int32)) (f2_o2 (f0_v151 p2) (0 : Int64) (f0_v163 p2) (f0_v175 p2) (0 : Int32) (0 : Int64) (0 : Int32) (0 : Int32)) (f2_o3 (f0_v151 p2) (0 : Int64) (f0_v163 p2) (f0_v175 p2) (0 : Int32) (0 : Int64) (0 : Int32) (0 : Int32)) (f5_o2 (0 : Int32) (3 : Int32) (f0_v42 p1) (3 : Int32) (f0_v86 p1) (3 : Int32) (f0_v142 p1)) (3 : Int32) (f0_v42 p1) (3 : Int32) (f0_v86 p1) (f5_x0n (0 : Int32) (3 : Int32) (f0_v42 p1) (3 : Int32) (f0_v86 p1) (3 : Int32) (f0_v142 p1)) (f5_x0c (0 : Int32) (3 : Int32) (f0_v42 p1) (3 : Int32) (f0_v86 p1) (3 : Int32) (f0_v142 p1)) (f5_x1n (0 : Int32) (3 : Int32) (f0_v42 p1) (3 : Int32) (f0_v86 p1) (3 : Int32) (f0_v142 p1)) (f5_x1c (0 : Int32) (3 : Int32) (f0_v42 p1) (3 : Int32) (f0_v86 p1) (3 : Int32) (f0_v142 p1)) (f5_x2n (0 : Int32) (3 : Int32) (f0_v42 p1) (3 : Int32) (f0_v86 p1) (3 : Int32) (f0_v142 p1)) (f5_x2c (0 : Int32) (3 : Int32) (f0_v42 p1) (3 : Int32) (f0_v86 p1) (3 : Int32) (f0_v142 p1)) (f5_x3n (0 : Int32) (3 : Int32) (f0_v42 p1) (3 : Int32) (f0_v86 p1) (3 : Int32) (f0_v142 p1)) (f5_x3c (0 : Int32) (3 : Int32) (f0_v42 p1) (3 : Int32) (f0_v86 p1) (3 : Int32) (f0_v142 p1)) (f5_x4n (0 : Int32) (3 : Int32) (f0_v42 p1) (3 : Int32) (f0_v86 p1) (3 : Int32) (f0_v142 p1)) (f5_x4c (0 : Int32) (3 : Int32) (f0_v42 p1) (3 : Int32) (f0_v86 p1) (3 : Int32) (f0_v142 p1)) (f5_x5n (0 : Int32) (3 : Int32) (f0_v42 p1) (3 : Int32) (f0_v86 p1) (3 : Int32) (f0_v142 p1)) (f5_x5c (0 : Int32) (3 : Int32) (f0_v42 p1) (3 : Int32) (f0_v86 p1) (3 : Int32) (f0_v142 p1))) from by unfold f0_A_r183_3_377; simp only [if_neg hc367])
      have eq39 := (show (f0_A_r183_4_377 p1 p2 p5) = (f8_o13 (f2_o0 (f0_v151 p2) (0 : Int64) (f0_v163 p2) (f0_v175 p2) (0 : Int32) (0 : Int64) (0 : Int32) (0 : Int32)) (f2_o2 (f0_v151 p2) (0 : Int64) (f0_v163 p2) (f0_v175 p2) (0 : Int32) (0 : Int64) (0 : Int32) (0 : Int32)) (f2_o3 (f0_v151 p2) (0 : Int64) (f0_v163 p2) (f0_v175 p2) (0 : Int32) (0 : Int64) (0 : Int32) (0 : Int32)) (f5_o2 (0 : Int32) (3 : Int32) (f0_v42 p1) (3 : Int32) (f0_v86 p1) (3 : Int32) (f0_v142 p1)) (3 : Int32) (f0_v42 p1) (3 : Int32) (f0_v86 p1) (f5_x0n (0 : Int32) (3 : Int32) (f0_v42 p1) (3 : Int32) (f0_v86 p1) (3 : Int32) (f0_v142 p1)) (f5_x0c (0 : Int32) (3 : Int32) (f0_v42 p1) (3 : Int32) (f0_v86 p1) (3 : Int32) (f0_v142 p1)) (f5_x1n (0 : Int32) (3 : Int32) (f0_v42 p1) (3 : Int32) (f0_v86 p1) (3 : Int32) (f0_v142 p1)) (f5_x1c (0 : Int32) (3 : Int32) (f0_v42 p1) (3 : Int32) (f0_v86 p1) (3 : Int32) (f0_v142 p1)) (f5_x2n (0 : Int32) (3 : Int32) (f0_v42 p1) (3 : Int32) (f0_v86 p1) (3 : Int32) (f0_v142 p1)) (f5_x2c (0 : Int32) (3 : Int32) (f0_v42 p1) (3 : Int32) (f0_v86 p1) (3 : Int32) (f0_v142 p1)) (f5_x3n (0 : Int32) (3 : Int32) (f0_v42 p1) (3 : Int32) (f0_v86 p1) (3 : Int32) (f0_v142 p1)) (f5_x3c (0 : Int32) (3 : Int32) (f0_v42 p1) (3 : Int32) (f0_v86 p1) (3 : Int32) (f0_v142 p1)) (f5_x4n (0 : Int32) (3 : Int32) (f0_v42 p1) (3 : Int32) (f0_v86 p1) (3 : Int32) (f0_v142 p1)) (f5_x4c (0 : Int32) (3 : Int32) (f0_v42 p1) (3 : Int32) (f0_v86 p1) (3 : Int32) (f0_v142 p1)) (f5_x5n (0 : Int32) (3 : Int32) (f0_v42 p1) (3 : Int32) (f0_v86 p1) (3 : Int32) (f0_v142 p1)) (f5_x5c (0 : Int32) (3 : Int32) (f0_v42 p1) (3 : Int32) (f0_v86 p1) (3 : Int32) (f0_v142 p1))) from by unfold f0_A_r183_4_377; simp only [if_neg hc367])
      have eq40 := (show (f0_A_r183_5_377 p1 p2 p5) = (f8_o14 (f2_o0 (f0_v151 p2) (0 : Int64) (f0_v163 p2) (f0_v175 p2) (0 : Int32) (0 : Int64) (0 : Int32) (0 : Int32)) (f2_o2 (f0_v151 p2) (0 : Int64) (f0_v163 p2) (f0_v175 p2) (0 : Int32) (0 : Int64) (0 : Int32) (0 : Int32)) (f2_o3 (f0_v151 p2) (0 : Int64) (f0_v163 p2) (f0_v175 p2) (0 : Int32) (0 : Int64) (0 : Int32) (0 : Int32)) (f5_o2 (0 : Int32) (3 : Int32) (f0_v42 p1) (3 : Int32) (f0_v86 p1) (3 : Int32) (f0_v142 p1)) (3 : Int32) (f0_v42 p1) (3 : Int32) (f0_v86 p1) (f5_x0n (0 : Int32) (3 : Int32) (f0_v42 p1) (3 : Int32) (f0_v86 p1) (3 : Int32) (f0_v142 p1)) (f5_x0c (0 : Int32) (3 : Int32) (f0_v42 p1) (3 : Int32) (f0_v86 p1) (3 : Int32) (f0_v142 p1)) (f5_x1n (0 : Int32) (3 : Int32) (f0_v42 p1) (3 : Int32) (f0_v86 p1) (3 : Int32) (f0_v142 p1)) (f5_x1c (0 : Int32) (3 : Int32) (f0_v42 p1) (3 : Int32) (f0_v86 p1) (3 : Int32) (f0_v142 p1)) (f5_x2n (0 : Int32) (3 : Int32) (f0_v42 p1) (3 : Int32) (f0_v86 p1) (3 : Int32) (f0_v142 p1)) (f5_x2c (0 : Int32) (3 : Int32) (f0_v42 p1) (3 : Int32) (f0_v86 p1) (3 : Int32) (f0_v142 p1)) (f5_x3n (0 : Int32) (3 : Int32) (f0_v42 p1) (3 : Int32) (f0_v86 p1) (3 : Int32) (f0_v142 p1)) (f5_x3c (0 : Int32) (3 : Int32) (f0_v42 p1) (3 : Int32) (f0_v86 p1) (3 : Int32) (f0_v142 p1)) (f5_x4n (0 : Int32) (3 : Int32) (f0_v42 p1) (3 : Int32) (f0_v86 p1) (3 : Int32) (f0_v142 p1)) (f5_x4c (0 : Int32) (3 : Int32) (f0_v42 p1) (3 : Int32) (f0_v86 p1) (3 : Int32) (f0_v142 p1)) (f5_x5n (0 : Int32) (3 : Int32) (f0_v42 p1) (3 : Int32) (f0_v86 p1) (3 : Int32) (f0_v142 p1)) (f5_x5c (0 : Int32) (3 : Int32) (f0_v42 p1) (3 : Int32) (f0_v86 p1) (3 : Int32) (f0_v142 p1))) from by unfold f0_A_r183_5_377; simp only [if_neg hc367])
      refine ⟨T214, _, T214.heap, X214, rfl, N214, c215, c216, c217, c218, c219, c220, c221, c222, c223, c224, c225, c226, c227, c228, c229, c230, c231, c232, c233, c234, c235, c236, c237, c238, c239, c240, c241, c242, c243, (by simp only [eq34, eq35, eq36, eq37, eq38, eq39, eq40]; exact c244), (by simp only [eq34, eq35, eq36, eq37, eq38, eq39, eq40]; exact c245), (by simp only [eq34, eq35, eq36, eq37, eq38, eq39, eq40]; exact c246), (by simp only [eq34, eq35, eq36, eq37, eq38, eq39, eq40]; exact c247), (by simp only [eq34, eq35, eq36, eq37, eq38, eq39, eq40]; exact c248), (by simp only [eq34, eq35, eq36, eq37, eq38, eq39, eq40]; exact c249), (by simp only [eq34, eq35, eq36, eq37, eq38, eq39, eq40]; exact c250), fun t k => ?_⟩
      try rw [eq34] at k
      try rw [eq35] at k
      try rw [eq36] at k
      try rw [eq37] at k
      try rw [eq38] at k
      try rw [eq39] at k
      try rw [eq40] at k
      refine pre25 t ?_
      refine XS.ifNo X183.here hx rfl (hb hby at_367) rfl ((if0 _ _).trans (feq hc367).1) ?_
      show Steps p.tables e below (T183.setTop (mkF m 370 #[.val (.int p1), .val (.int p2), .val (.int p3), .val (.int p4), .val (.int p5), .val (.int ((p1 &&& (3 : Int32)) - (1 : Int32))), .val (.int (f0_v14 p1)), .val (.int (f0_v23 p1)), .val (.ref b6), .val (.ref b18), .val (.ref b37), .val (.int (f0_v151 p2)), .val (.int (f0_v163 p2)), .val (.int (f0_v175 p2)), .val (.int (f0_v184 p3)), .val (.int (f0_v196 p3)), .val (.int (f0_v208 p3)), .val (.int (f0_v217 p4)), .val (.int (f0_v229 p4)), .val (.int (f0_v241 p4)), .val (.int (f0_v251 p5)), .val (.int (f0_v261 p5)), .val (.int (f0_s0_274 p5)), .val (.int (f0_s0_287 p5)), .val (.int (f0_s0_300 p5)), .val (.ref b60), .val (.ref b81), .val (.ref b112), .val (.ref b153), .unset, .unset, .unset, .unset, .unset] [])) _
      refine XS.aload X183.here hx rfl (hb hby at_370) rfl rfl ?_
      refine XS.aload X183.here hx rfl (hb hby at_372) rfl rfl ?_
      show Steps p.tables e below (T183.setTop (mkF m 374 #[.val (.int p1), .val (.int p2), .val (.int p3), .val (.int p4), .val (.int p5), .val (.int ((p1 &&& (3 : Int32)) - (1 : Int32))), .val (.int (f0_v14 p1)), .val (.int (f0_v23 p1)), .val (.ref b6), .val (.ref b18), .val (.ref b37), .val (.int (f0_v151 p2)), .val (.int (f0_v163 p2)), .val (.int (f0_v175 p2)), .val (.int (f0_v184 p3)), .val (.int (f0_v196 p3)), .val (.int (f0_v208 p3)), .val (.int (f0_v217 p4)), .val (.int (f0_v229 p4)), .val (.int (f0_v241 p4)), .val (.int (f0_v251 p5)), .val (.int (f0_v261 p5)), .val (.int (f0_s0_274 p5)), .val (.int (f0_s0_287 p5)), .val (.int (f0_s0_300 p5)), .val (.ref b60), .val (.ref b81), .val (.ref b112), .val (.ref b153), .unset, .unset, .unset, .unset, .unset] [(.ref b60), (.ref b153)])) _
      refine st214.trans ?_
      exact k
  have pre41 : ∀ t, Steps p.tables e below (T288.setTop (mkF m 379 #[.val (.int p1), .val (.int p2), .val (.int p3), .val (.int p4), .val (.int p5), .val (.int ((p1 &&& (3 : Int32)) - (1 : Int32))), .val (.int (f0_v14 p1)), .val (.int (f0_v23 p1)), .val (.ref b6), .val (.ref b18), .val (.ref b37), .val (.int (f0_v151 p2)), .val (.int (f0_v163 p2)), .val (.int (f0_v175 p2)), .val (.int (f0_v184 p3)), .val (.int (f0_v196 p3)), .val (.int (f0_v208 p3)), .val (.int (f0_v217 p4)), .val (.int (f0_v229 p4)), .val (.int (f0_v241 p4)), .val (.int (f0_v251 p5)), .val (.int (f0_v261 p5)), .val (.int (f0_s0_274 p5)), .val (.int (f0_s0_287 p5)), .val (.int (f0_s0_300 p5)), .val (.ref b60), .val (.ref b81), .val (.ref b112), .val (.ref b153), .unset, .unset, .unset, .unset, .unset] [(.int (f0_s0_287 p5))])) t → Steps p.tables e below (s₁.setTop (entryFrame m #[(.int p1), (.int p2), (.int p3), (.int p4), (.int p5)] maxLocals)) t := by
    intro t k
    refine pre26 t ?_
    refine XS.iload X288.here hx rfl (hb hby at_377) rfl ?_
    exact k
  obtain ⟨T363, Lmpre42, h326, X363, e363, N363, c327, c328, c329, c330, c331, c332, c333, c334, c335, c336, c337, c338, c339, c340, c341, c342, c343, c344, c345, c346, c347, c348, c349, c350, c351, c352, c353, c354, c355, c356, c357, c358, c359, c360, c361, c362, pre42⟩ : ∃ (T' : State) (L' : List Loc) (h326 : Heap), Stand p l e room_1 s m #[(.int p1), (.int p2), (.int p3), (.int p4), (.int p5)] below meth c T' L' 13 48 ∧ T'.heap = h326 ∧ Fr n0 L' ∧ n0 ≤ h326.size ∧ IAr Z h326 b6 .int (3 : Int32) (f0_v42 p1) ∧ IAr Z h326 b18 .int (3 : Int32) (f0_v86 p1) ∧ Exa Z h326 b37 "[Z" ∧ IAr Z h326 b37 .boolean (3 : Int32) (f0_v142 p1) ∧ Exa Z h326 b60 "com/example/podflow/podflow/simulation/Pickup" ∧ Fld Z h326 b60 "com/example/podflow/podflow/simulation/Pickup" "vehicle" "I" (.int (f2_o0 (f0_v151 p2) (0 : Int64) (f0_v163 p2) (f0_v175 p2) (0 : Int32) (0 : Int64) (0 : Int32) (0 : Int32))) ∧ Fld Z h326 b60 "com/example/podflow/podflow/simulation/Pickup" "time" "J" (.long (f2_o1 (f0_v151 p2) (0 : Int64) (f0_v163 p2) (f0_v175 p2) (0 : Int32) (0 : Int64) (0 : Int32) (0 : Int32))) ∧ Fld Z h326 b60 "com/example/podflow/podflow/simulation/Pickup" "emptyFrom" "I" (.int (f2_o2 (f0_v151 p2) (0 : Int64) (f0_v163 p2) (f0_v175 p2) (0 : Int32) (0 : Int64) (0 : Int32) (0 : Int32))) ∧ Fld Z h326 b60 "com/example/podflow/podflow/simulation/Pickup" "emptyTo" "I" (.int (f2_o3 (f0_v151 p2) (0 : Int64) (f0_v163 p2) (f0_v175 p2) (0 : Int32) (0 : Int64) (0 : Int32) (0 : Int32))) ∧ Exa Z h326 b81 "com/example/podflow/podflow/simulation/Pickup" ∧ Fld Z h326 b81 "com/example/podflow/podflow/simulation/Pickup" "vehicle" "I" (.int (f2_o0 (f0_v184 p3) (0 : Int64) (f0_v196 p3) (f0_v208 p3) (0 : Int32) (0 : Int64) (0 : Int32) (0 : Int32))) ∧ Fld Z h326 b81 "com/example/podflow/podflow/simulation/Pickup" "time" "J" (.long (f2_o1 (f0_v184 p3) (0 : Int64) (f0_v196 p3) (f0_v208 p3) (0 : Int32) (0 : Int64) (0 : Int32) (0 : Int32))) ∧ Fld Z h326 b81 "com/example/podflow/podflow/simulation/Pickup" "emptyFrom" "I" (.int (f2_o2 (f0_v184 p3) (0 : Int64) (f0_v196 p3) (f0_v208 p3) (0 : Int32) (0 : Int64) (0 : Int32) (0 : Int32))) ∧ Fld Z h326 b81 "com/example/podflow/podflow/simulation/Pickup" "emptyTo" "I" (.int (f2_o3 (f0_v184 p3) (0 : Int64) (f0_v196 p3) (f0_v208 p3) (0 : Int32) (0 : Int64) (0 : Int32) (0 : Int32))) ∧ Exa Z h326 b112 "com/example/podflow/podflow/simulation/Pickup" ∧ Fld Z h326 b112 "com/example/podflow/podflow/simulation/Pickup" "vehicle" "I" (.int (f2_o0 (f0_v217 p4) (0 : Int64) (f0_v229 p4) (f0_v241 p4) (0 : Int32) (0 : Int64) (0 : Int32) (0 : Int32))) ∧ Fld Z h326 b112 "com/example/podflow/podflow/simulation/Pickup" "time" "J" (.long (f2_o1 (f0_v217 p4) (0 : Int64) (f0_v229 p4) (f0_v241 p4) (0 : Int32) (0 : Int64) (0 : Int32) (0 : Int32))) ∧ Fld Z h326 b112 "com/example/podflow/podflow/simulation/Pickup" "emptyFrom" "I" (.int (f2_o2 (f0_v217 p4) (0 : Int64) (f0_v229 p4) (f0_v241 p4) (0 : Int32) (0 : Int64) (0 : Int32) (0 : Int32))) ∧ Fld Z h326 b112 "com/example/podflow/podflow/simulation/Pickup" "emptyTo" "I" (.int (f2_o3 (f0_v217 p4) (0 : Int64) (f0_v229 p4) (f0_v241 p4) (0 : Int32) (0 : Int64) (0 : Int32) (0 : Int32))) ∧ Exa Z h326 b153 "com/example/podflow/podflow/simulation/Ballot" ∧ Fld Z h326 b153 "com/example/podflow/podflow/simulation/Ballot" "idleAt" "[I" (.ref b6) ∧ Fld Z h326 b153 "com/example/podflow/podflow/simulation/Ballot" "idleCount" "[I" (.ref b18) ∧ Fld Z h326 b153 "com/example/podflow/podflow/simulation/Ballot" "open" "[Z" (.ref r183_0) ∧ Fld Z h326 b153 "com/example/podflow/podflow/simulation/Ballot" "served" "[I" (.ref r183_1) ∧ Fld Z h326 b153 "com/example/podflow/podflow/simulation/Ballot" "servedHome" "[I" (.ref r183_2) ∧ Fld Z h326 b153 "com/example/podflow/podflow/simulation/Ballot" "ownLeaving" "[I" (.ref r183_3) ∧ Fld Z h326 b153 "com/example/podflow/podflow/simulation/Ballot" "anyLeaving" "[I" (.ref r183_4) ∧ Fld Z h326 b153 "com/example/podflow/podflow/simulation/Ballot" "counted" "[Z" (.ref r183_5) ∧ Fld Z h326 b153 "com/example/podflow/podflow/simulation/Ballot" "unsettled" "I" (.int (f0_F_unsettled_b153_389 p1 p2 p3 p5)) ∧ IAr Z h326 r183_0 .boolean (f5_x0n (0 : Int32) (3 : Int32) (f0_v42 p1) (3 : Int32) (f0_v86 p1) (3 : Int32) (f0_v142 p1)) (f0_A_r183_0_389 p1 p2 p3 p5) ∧ IAr Z h326 r183_1 .int (f5_x1n (0 : Int32) (3 : Int32) (f0_v42 p1) (3 : Int32) (f0_v86 p1) (3 : Int32) (f0_v142 p1)) (f0_A_r183_1_389 p1 p2 p3 p5) ∧ IAr Z h326 r183_2 .int (f5_x2n (0 : Int32) (3 : Int32) (f0_v42 p1) (3 : Int32) (f0_v86 p1) (3 : Int32) (f0_v142 p1)) (f0_A_r183_2_389 p1 p2 p3 p5) ∧ IAr Z h326 r183_3 .int (f5_x3n (0 : Int32) (3 : Int32) (f0_v42 p1) (3 : Int32) (f0_v86 p1) (3 : Int32) (f0_v142 p1)) (f0_A_r183_3_389 p1 p2 p3 p5) ∧ IAr Z h326 r183_4 .int (f5_x4n (0 : Int32) (3 : Int32) (f0_v42 p1) (3 : Int32) (f0_v86 p1) (3 : Int32) (f0_v142 p1)) (f0_A_r183_4_389 p1 p2 p3 p5) ∧ IAr Z h326 r183_5 .boolean (f5_x5n (0 : Int32) (3 : Int32) (f0_v42 p1) (3 : Int32) (f0_v86 p1) (3 : Int32) (f0_v142 p1)) (f0_A_r183_5_389 p1 p2 p3 p5) ∧ ∀ t, Steps p.tables e below (T'.setTop (mkF m 389 #[.val (.int p1), .val (.int p2), .val (.int p3), .val (.int p4), .val (.int p5), .val (.int ((p1 &&& (3 : Int32)) - (1 : Int32))), .val (.int (f0_v14 p1)), .val (.int (f0_v23 p1)), .val (.ref b6), .val (.ref b18), .val (.ref b37), .val (.int (f0_v151 p2)), .val (.int (f0_v163 p2)), .val (.int (f0_v175 p2)), .val (.int (f0_v184 p3)), .val (.int (f0_v196 p3)), .val (.int (f0_v208 p3)), .val (.int (f0_v217 p4)), .val (.int (f0_v229 p4)), .val (.int (f0_v241 p4)), .val (.int (f0_v251 p5)), .val (.int (f0_v261 p5)), .val (.int (f0_s0_274 p5)), .val (.int (f0_s0_287 p5)), .val (.int (f0_s0_300 p5)), .val (.ref b60), .val (.ref b81), .val (.ref b112), .val (.ref b153), .unset, .unset, .unset, .unset, .unset] [])) t → Steps p.tables e below (s₁.setTop (entryFrame m #[(.int p1), (.int p2), (.int p3), (.int p4), (.int p5)] maxLocals)) t := by
    by_cases hc379 : (f0_s0_287 p5) = (0 : Int32)
    · have eq43 := (show (f0_F_unsettled_b153_389 p1 p2 p3 p5) = (f0_F_unsettled_b153_377 p1 p2 p5) from by unfold f0_F_unsettled_b153_389; simp only [if_pos hc379])
      have eq44 := (show (f0_A_r183_0_389 p1 p2 p3 p5) = (f0_A_r183_0_377 p1 p2 p5) from by unfold f0_A_r183_0_389; simp only [if_pos hc379])
      have eq45 := (show (f0_A_r183_1_389 p1 p2 p3 p5) = (f0_A_r183_1_377 p1 p2 p5) from by unfold f0_A_r183_1_389; simp only [if_pos hc379])
      have eq46 := (show (f0_A_r183_2_389 p1 p2 p3 p5) = (f0_A_r183_2_377 p1 p2 p5) from by unfold f0_A_r183_2_389; simp only [if_pos hc379])
      have eq47 := (show (f0_A_r183_3_389 p1 p2 p3 p5) = (f0_A_r183_3_377 p1 p2 p5) from by unfold f0_A_r183_3_389; simp only [if_pos hc379])
      have eq48 := (show (f0_A_r183_4_389 p1 p2 p3 p5) = (f0_A_r183_4_377 p1 p2 p5) from by unfold f0_A_r183_4_389; simp only [if_pos hc379])
      have eq49 := (show (f0_A_r183_5_389 p1 p2 p3 p5) = (f0_A_r183_5_377 p1 p2 p5) from by unfold f0_A_r183_5_389; simp only [if_pos hc379])
      refine ⟨T288, _, h251, X288, e288, N288, c252, c253, c254, c255, c256, c257, c258, c259, c260, c261, c262, c263, c264, c265, c266, c267, c268, c269, c270, c271, c272, c273, c274, c275, c276, c277, c278, c279, c280, (by simp only [eq43, eq44, eq45, eq46, eq47, eq48, eq49]; exact c281), (by simp only [eq43, eq44, eq45, eq46, eq47, eq48, eq49]; exact c282), (by simp only [eq43, eq44, eq45, eq46, eq47, eq48, eq49]; exact c283), (by simp only [eq43, eq44, eq45, eq46, eq47, eq48, eq49]; exact c284), (by simp only [eq43, eq44, eq45, eq46, eq47, eq48, eq49]; exact c285), (by simp only [eq43, eq44, eq45, eq46, eq47, eq48, eq49]; exact c286), (by simp only [eq43, eq44, eq45, eq46, eq47, eq48, eq49]; exact c287), fun t k => ?_⟩
      try rw [eq43] at k
      try rw [eq44] at k
      try rw [eq45] at k
      try rw [eq46] at k
      try rw [eq47] at k
      try rw [eq48] at k
      try rw [eq49] at k
      refine pre41 t ?_
      refine XS.ifYes X288.here hx rfl (pc0 := 379) (pc' := 389) rfl (hb hby at_379) rfl ((if0 _ _).trans (teq hc379).1) (by decide) (by decide) ?_
      exact k
    · obtain ⟨cq289, kq289, q289a, q289b, q289c⟩ := isOf hZ e288 c272
      obtain ⟨_, _, ⟨T289, L289, k289, n289⟩, -, X289, ⟨Lc289, hQ289, l289, y289, z289⟩, st289⟩ := X288.virtualBack hx (y := (⟨"com/example/podflow/podflow/simulation/Ballot", "count", "(Lcom/example/podflow/podflow/simulation/Pickup;)V"⟩ : MethodName)) (z := (⟨"com/example/podflow/podflow/simulation/Ballot", "count", "(Lcom/example/podflow/podflow/simulation/Pickup;)V"⟩ : MethodName)) hown (mvT hZ (hw _ (List.mem_of_getElem? (i := 71) rfl))) (mvT hZ (hw _ (List.mem_of_getElem? (i := 72) rfl))) (notFace_of_selects (args := #[]) (mvT hZ (hw _ (List.mem_of_getElem? (i := 74) rfl)))) (mvT hZ (hw _ (List.mem_of_getElem? (i := 74) rfl))) (mvT hZ (hw _ (List.mem_of_getElem? (i := 73) rfl))) (by decide) (backOf (W := 0) (rm8 l Z a0 hw [] b153 b81 (f2_o0 (f0_v184 p3) (0 : Int64) (f0_v196 p3) (f0_v208 p3) (0 : Int32) (0 : Int64) (0 : Int32) (0 : Int32)) (f2_o2 (f0_v184 p3) (0 : Int64) (f0_v196 p3) (f0_v208 p3) (0 : Int32) (0 : Int64) (0 : Int32) (0 : Int32)) (f2_o3 (f0_v184 p3) (0 : Int64) (f0_v196 p3) (f0_v208 p3) (0 : Int32) (0 : Int64) (0 : Int32) (0 : Int32)) b6 b18 r183_0 r183_1 r183_2 r183_3 r183_4 r183_5 (f0_F_unsettled_b153_377 p1 p2 p5) (3 : Int32) (f0_v42 p1) (3 : Int32) (f0_v86 p1) (f5_x0n (0 : Int32) (3 : Int32) (f0_v42 p1) (3 : Int32) (f0_v86 p1) (3 : Int32) (f0_v142 p1)) (f0_A_r183_0_377 p1 p2 p5) (f5_x1n (0 : Int32) (3 : Int32) (f0_v42 p1) (3 : Int32) (f0_v86 p1) (3 : Int32) (f0_v142 p1)) (f0_A_r183_1_377 p1 p2 p5) (f5_x2n (0 : Int32) (3 : Int32) (f0_v42 p1) (3 : Int32) (f0_v86 p1) (3 : Int32) (f0_v142 p1)) (f0_A_r183_2_377 p1 p2 p5) (f5_x3n (0 : Int32) (3 : Int32) (f0_v42 p1) (3 : Int32) (f0_v86 p1) (3 : Int32) (f0_v142 p1)) (f0_A_r183_3_377 p1 p2 p5) (f5_x4n (0 : Int32) (3 : Int32) (f0_v42 p1) (3 : Int32) (f0_v86 p1) (3 : Int32) (f0_v142 p1)) (f0_A_r183_4_377 p1 p2 p5) (f5_x5n (0 : Int32) (3 : Int32) (f0_v42 p1) (3 : Int32) (f0_v86 p1) (3 : Int32) (f0_v142 p1)) (f0_A_r183_5_377 p1 p2 p5) h251 n0 c252 c272 g_b153 c262 c263 c265 c266 c273 c274 c275 c276 c277 c278 c279 c280 c281 c253 c254 c282 c283 c284 c285 c286 c287 g_r183_0 g_r183_1 g_r183_2 g_r183_3 g_r183_4 g_r183_5 ne_b153_r183_0 ne_b153_r183_1 ne_b153_r183_2 ne_b153_r183_3 ne_b153_r183_4 ne_b153_r183_5 ne_r183_0_r183_1 ne_r183_0_r183_2 ne_r183_0_r183_3 ne_r183_0_r183_4 ne_r183_0_r183_5 ne_r183_1_r183_2 ne_r183_1_r183_3 ne_r183_1_r183_4 ne_r183_1_r183_5 ne_r183_2_r183_3 ne_r183_2_r183_4 ne_r183_2_r183_5 ne_r183_3_r183_4 ne_r183_3_r183_5 ne_r183_4_r183_5 ne_b6_b153 ne_b6_r183_0 ne_b6_r183_1 ne_b6_r183_2 ne_b6_r183_3 ne_b6_r183_4 ne_b6_r183_5 ne_b18_b153 ne_b18_r183_0 ne_b18_r183_1 ne_b18_r183_2 ne_b18_r183_3 ne_b18_r183_4 ne_b18_r183_5 ne_b81_b153 ne_b81_r183_0 ne_b81_r183_1 ne_b81_r183_2 ne_b81_r183_3 ne_b81_r183_4 ne_b81_r183_5 (own_v184 p3) (own_v196 p3) (own_ia p1) ⟨rfl, rfl, rfl, rfl, rfl, rfl, rfl, rfl⟩) hZ (hw _ (List.mem_of_getElem? (i := 75) rfl)) (hw _ (List.mem_of_getElem? (i := 30) rfl)) (by decide) (by decide)) q289a q289c (g := (mkF m 386 #[.val (.int p1), .val (.int p2), .val (.int p3), .val (.int p4), .val (.int p5), .val (.int ((p1 &&& (3 : Int32)) - (1 : Int32))), .val (.int (f0_v14 p1)), .val (.int (f0_v23 p1)), .val (.ref b6), .val (.ref b18), .val (.ref b37), .val (.int (f0_v151 p2)), .val (.int (f0_v163 p2)), .val (.int (f0_v175 p2)), .val (.int (f0_v184 p3)), .val (.int (f0_v196 p3)), .val (.int (f0_v208 p3)), .val (.int (f0_v217 p4)), .val (.int (f0_v229 p4)), .val (.int (f0_v241 p4)), .val (.int (f0_v251 p5)), .val (.int (f0_v261 p5)), .val (.int (f0_s0_274 p5)), .val (.int (f0_s0_287 p5)), .val (.int (f0_s0_300 p5)), .val (.ref b60), .val (.ref b81), .val (.ref b112), .val (.ref b153), .unset, .unset, .unset, .unset, .unset] [(.ref b81), (.ref b153)])) rfl (by rw [hml]; rfl) (Steps.refl _) (argsL := [(.ref b81)]) (rest := []) (lenOf pd_7 rfl) rfl (by show 2 * 0 + _ ≤ _; exact Nat.le_of_eq rfl) (hb hby at_386) (fun _ _ => ⟨rfl, e288, (by decide : 13 + 0 ≤ _), (by decide : 48 + 0 ≤ _)⟩)
      dsimp only [Pt.U, Pt.locs, Pt.cells, Pt.slots] at X289 l289 y289 z289 st289 hQ289
      subst l289 y289 z289
      obtain ⟨rfl, N289q, K289, o289_0, o289_1, o289_2, o289_3, o289_4, o289_5, o289_6, o289_7, o289_8, o289_9, o289_10, o289_11, o289_12, o289_13, o289_14⟩ := hQ289
      have N289 := Fr.app N288 N289q
      have c290 : n0 ≤ T289.heap.size := Nat.le_trans c252 K289.1
      have c291 : IAr Z T289.heap b6 .int (3 : Int32) (f0_v42 p1) := c253.keep K289 (ninS ne_b6_b153 (ninS ne_b6_r183_0 (ninS ne_b6_r183_1 (ninS ne_b6_r183_2 (ninS ne_b6_r183_3 (ninS ne_b6_r183_4 (ninS ne_b6_r183_5 nin0)))))))
      have c292 : IAr Z T289.heap b18 .int (3 : Int32) (f0_v86 p1) := c254.keep K289 (ninS ne_b18_b153 (ninS ne_b18_r183_0 (ninS ne_b18_r183_1 (ninS ne_b18_r183_2 (ninS ne_b18_r183_3 (ninS ne_b18_r183_4 (ninS ne_b18_r183_5 nin0)))))))
      have c293 : Exa Z T289.heap b37 "[Z" := c255.keep K289
      have c294 : IAr Z T289.heap b37 .boolean (3 : Int32) (f0_v142 p1) := c256.keep K289 (ninS ne_b37_b153 (ninS ne_b37_r183_0 (ninS ne_b37_r183_1 (ninS ne_b37_r183_2 (ninS ne_b37_r183_3 (ninS ne_b37_r183_4 (ninS ne_b37_r183_5 nin0)))))))
      have c295 : Exa Z T289.heap b60 "com/example/podflow/podflow/simulation/Pickup" := c257.keep K289
      have c296 : Fld Z T289.heap b60 "com/example/podflow/podflow/simulation/Pickup" "vehicle" "I" (.int (f2_o0 (f0_v151 p2) (0 : Int64) (f0_v163 p2) (f0_v175 p2) (0 : Int32) (0 : Int64) (0 : Int32) (0 : Int32))) := c258.keep K289 (ninS ne_b60_b153 (ninS ne_b60_r183_0 (ninS ne_b60_r183_1 (ninS ne_b60_r183_2 (ninS ne_b60_r183_3 (ninS ne_b60_r183_4 (ninS ne_b60_r183_5 nin0)))))))
      have c297 : Fld Z T289.heap b60 "com/example/podflow/podflow/simulation/Pickup" "time" "J" (.long (f2_o1 (f0_v151 p2) (0 : Int64) (f0_v163 p2) (f0_v175 p2) (0 : Int32) (0 : Int64) (0 : Int32) (0 : Int32))) := c259.keep K289 (ninS ne_b60_b153 (ninS ne_b60_r183_0 (ninS ne_b60_r183_1 (ninS ne_b60_r183_2 (ninS ne_b60_r183_3 (ninS ne_b60_r183_4 (ninS ne_b60_r183_5 nin0)))))))
      have c298 : Fld Z T289.heap b60 "com/example/podflow/podflow/simulation/Pickup" "emptyFrom" "I" (.int (f2_o2 (f0_v151 p2) (0 : Int64) (f0_v163 p2) (f0_v175 p2) (0 : Int32) (0 : Int64) (0 : Int32) (0 : Int32))) := c260.keep K289 (ninS ne_b60_b153 (ninS ne_b60_r183_0 (ninS ne_b60_r183_1 (ninS ne_b60_r183_2 (ninS ne_b60_r183_3 (ninS ne_b60_r183_4 (ninS ne_b60_r183_5 nin0)))))))
      have c299 : Fld Z T289.heap b60 "com/example/podflow/podflow/simulation/Pickup" "emptyTo" "I" (.int (f2_o3 (f0_v151 p2) (0 : Int64) (f0_v163 p2) (f0_v175 p2) (0 : Int32) (0 : Int64) (0 : Int32) (0 : Int32))) := c261.keep K289 (ninS ne_b60_b153 (ninS ne_b60_r183_0 (ninS ne_b60_r183_1 (ninS ne_b60_r183_2 (ninS ne_b60_r183_3 (ninS ne_b60_r183_4 (ninS ne_b60_r183_5 nin0)))))))
      have c300 : Exa Z T289.heap b81 "com/example/podflow/podflow/simulation/Pickup" := c262.keep K289
      have c301 : Fld Z T289.heap b81 "com/example/podflow/podflow/simulation/Pickup" "vehicle" "I" (.int (f2_o0 (f0_v184 p3) (0 : Int64) (f0_v196 p3) (f0_v208 p3) (0 : Int32) (0 : Int64) (0 : Int32) (0 : Int32))) := c263.keep K289 (ninS ne_b81_b153 (ninS ne_b81_r183_0 (ninS ne_b81_r183_1 (ninS ne_b81_r183_2 (ninS ne_b81_r183_3 (ninS ne_b81_r183_4 (ninS ne_b81_r183_5 nin0)))))))
      have c302 : Fld Z T289.heap b81 "com/example/podflow/podflow/simulation/Pickup" "time" "J" (.long (f2_o1 (f0_v184 p3) (0 : Int64) (f0_v196 p3) (f0_v208 p3) (0 : Int32) (0 : Int64) (0 : Int32) (0 : Int32))) := c264.keep K289 (ninS ne_b81_b153 (ninS ne_b81_r183_0 (ninS ne_b81_r183_1 (ninS ne_b81_r183_2 (ninS ne_b81_r183_3 (ninS ne_b81_r183_4 (ninS ne_b81_r183_5 nin0)))))))
      have c303 : Fld Z T289.heap b81 "com/example/podflow/podflow/simulation/Pickup" "emptyFrom" "I" (.int (f2_o2 (f0_v184 p3) (0 : Int64) (f0_v196 p3) (f0_v208 p3) (0 : Int32) (0 : Int64) (0 : Int32) (0 : Int32))) := c265.keep K289 (ninS ne_b81_b153 (ninS ne_b81_r183_0 (ninS ne_b81_r183_1 (ninS ne_b81_r183_2 (ninS ne_b81_r183_3 (ninS ne_b81_r183_4 (ninS ne_b81_r183_5 nin0)))))))
      have c304 : Fld Z T289.heap b81 "com/example/podflow/podflow/simulation/Pickup" "emptyTo" "I" (.int (f2_o3 (f0_v184 p3) (0 : Int64) (f0_v196 p3) (f0_v208 p3) (0 : Int32) (0 : Int64) (0 : Int32) (0 : Int32))) := c266.keep K289 (ninS ne_b81_b153 (ninS ne_b81_r183_0 (ninS ne_b81_r183_1 (ninS ne_b81_r183_2 (ninS ne_b81_r183_3 (ninS ne_b81_r183_4 (ninS ne_b81_r183_5 nin0)))))))
      have c305 : Exa Z T289.heap b112 "com/example/podflow/podflow/simulation/Pickup" := c267.keep K289
      have c306 : Fld Z T289.heap b112 "com/example/podflow/podflow/simulation/Pickup" "vehicle" "I" (.int (f2_o0 (f0_v217 p4) (0 : Int64) (f0_v229 p4) (f0_v241 p4) (0 : Int32) (0 : Int64) (0 : Int32) (0 : Int32))) := c268.keep K289 (ninS ne_b112_b153 (ninS ne_b112_r183_0 (ninS ne_b112_r183_1 (ninS ne_b112_r183_2 (ninS ne_b112_r183_3 (ninS ne_b112_r183_4 (ninS ne_b112_r183_5 nin0)))))))
      have c307 : Fld Z T289.heap b112 "com/example/podflow/podflow/simulation/Pickup" "time" "J" (.long (f2_o1 (f0_v217 p4) (0 : Int64) (f0_v229 p4) (f0_v241 p4) (0 : Int32) (0 : Int64) (0 : Int32) (0 : Int32))) := c269.keep K289 (ninS ne_b112_b153 (ninS ne_b112_r183_0 (ninS ne_b112_r183_1 (ninS ne_b112_r183_2 (ninS ne_b112_r183_3 (ninS ne_b112_r183_4 (ninS ne_b112_r183_5 nin0)))))))
      have c308 : Fld Z T289.heap b112 "com/example/podflow/podflow/simulation/Pickup" "emptyFrom" "I" (.int (f2_o2 (f0_v217 p4) (0 : Int64) (f0_v229 p4) (f0_v241 p4) (0 : Int32) (0 : Int64) (0 : Int32) (0 : Int32))) := c270.keep K289 (ninS ne_b112_b153 (ninS ne_b112_r183_0 (ninS ne_b112_r183_1 (ninS ne_b112_r183_2 (ninS ne_b112_r183_3 (ninS ne_b112_r183_4 (ninS ne_b112_r183_5 nin0)))))))
      have c309 : Fld Z T289.heap b112 "com/example/podflow/podflow/simulation/Pickup" "emptyTo" "I" (.int (f2_o3 (f0_v217 p4) (0 : Int64) (f0_v229 p4) (f0_v241 p4) (0 : Int32) (0 : Int64) (0 : Int32) (0 : Int32))) := c271.keep K289 (ninS ne_b112_b153 (ninS ne_b112_r183_0 (ninS ne_b112_r183_1 (ninS ne_b112_r183_2 (ninS ne_b112_r183_3 (ninS ne_b112_r183_4 (ninS ne_b112_r183_5 nin0)))))))
      have c310 : Exa Z T289.heap b153 "com/example/podflow/podflow/simulation/Ballot" := c272.keep K289
      have c311 : Fld Z T289.heap b153 "com/example/podflow/podflow/simulation/Ballot" "idleAt" "[I" (.ref b6) := o289_0
      have c312 : Fld Z T289.heap b153 "com/example/podflow/podflow/simulation/Ballot" "idleCount" "[I" (.ref b18) := o289_1
      have c313 : Fld Z T289.heap b153 "com/example/podflow/podflow/simulation/Ballot" "open" "[Z" (.ref r183_0) := o289_2
      have c314 : Fld Z T289.heap b153 "com/example/podflow/podflow/simulation/Ballot" "served" "[I" (.ref r183_1) := o289_3
      have c315 : Fld Z T289.heap b153 "com/example/podflow/podflow/simulation/Ballot" "servedHome" "[I" (.ref r183_2) := o289_4
      have c316 : Fld Z T289.heap b153 "com/example/podflow/podflow/simulation/Ballot" "ownLeaving" "[I" (.ref r183_3) := o289_5
      have c317 : Fld Z T289.heap b153 "com/example/podflow/podflow/simulation/Ballot" "anyLeaving" "[I" (.ref r183_4) := o289_6
      have c318 : Fld Z T289.heap b153 "com/example/podflow/podflow/simulation/Ballot" "counted" "[Z" (.ref r183_5) := o289_7
      have c319 : Fld Z T289.heap b153 "com/example/podflow/podflow/simulation/Ballot" "unsettled" "I" (.int (f8_o8 (f2_o0 (f0_v184 p3) (0 : Int64) (f0_v196 p3) (f0_v208 p3) (0 : Int32) (0 : Int64) (0 : Int32) (0 : Int32)) (f2_o2 (f0_v184 p3) (0 : Int64) (f0_v196 p3) (f0_v208 p3) (0 : Int32) (0 : Int64) (0 : Int32) (0 : Int32)) (f2_o3 (f0_v184 p3) (0 : Int64) (f0_v196 p3) (f0_v208 p3) (0 : Int32) (0 : Int64) (0 : Int32) (0 : Int32)) (f0_F_unsettled_b153_377 p1 p2 p5) (3 : Int32) (f0_v42 p1) (3 : Int32) (f0_v86 p1) (f5_x0n (0 : Int32) (3 : Int32) (f0_v42 p1) (3 : Int32) (f0_v86 p1) (3 : Int32) (f0_v142 p1)) (f0_A_r183_0_377 p1 p2 p5) (f5_x1n (0 : Int32) (3 : Int32) (f0_v42 p1) (3 : Int32) (f0_v86 p1) (3 : Int32) (f0_v142 p1)) (f0_A_r183_1_377 p1 p2 p5) (f5_x2n (0 : Int32) (3 : Int32) (f0_v42 p1) (3 : Int32) (f0_v86 p1) (3 : Int32) (f0_v142 p1)) (f0_A_r183_2_377 p1 p2 p5) (f5_x3n (0 : Int32) (3 : Int32) (f0_v42 p1) (3 : Int32) (f0_v86 p1) (3 : Int32) (f0_v142 p1)) (f0_A_r183_3_377 p1 p2 p5) (f5_x4n (0 : Int32) (3 : Int32) (f0_v42 p1) (3 : Int32) (f0_v86 p1) (3 : Int32) (f0_v142 p1)) (f0_A_r183_4_377 p1 p2 p5) (f5_x5n (0 : Int32) (3 : Int32) (f0_v42 p1) (3 : Int32) (f0_v86 p1) (3 : Int32) (f0_v142 p1)) (f0_A_r183_5_377 p1 p2 p5))) := o289_8
      have c320 : IAr Z T289.heap r183_0 .boolean (f5_x0n (0 : Int32) (3 : Int32) (f0_v42 p1) (3 : Int32) (f0_v86 p1) (3 : Int32) (f0_v142 p1)) (f8_o9 (f2_o0 (f0_v184 p3) (0 : Int64) (f0_v196 p3) (f0_v208 p3) (0 : Int32) (0 : Int64) (0 : Int32) (0 : Int32)) (f2_o2 (f0_v184 p3) (0 : Int64) (f0_v196 p3) (f0_v208 p3) (0 : Int32) (0 : Int64) (0 : Int32) (0 : Int32)) (f2_o3 (f0_v184 p3) (0 : Int64) (f0_v196 p3) (f0_v208 p3) (0 : Int32) (0 : Int64) (0 : Int32) (0 : Int32)) (f0_F_unsettled_b153_377 p1 p2 p5) (3 : Int32) (f0_v42 p1) (3 : Int32) (f0_v86 p1) (f5_x0n (0 : Int32) (3 : Int32) (f0_v42 p1) (3 : Int32) (f0_v86 p1) (3 : Int32) (f0_v142 p1)) (f0_A_r183_0_377 p1 p2 p5) (f5_x1n (0 : Int32) (3 : Int32) (f0_v42 p1) (3 : Int32) (f0_v86 p1) (3 : Int32) (f0_v142 p1)) (f0_A_r183_1_377 p1 p2 p5) (f5_x2n (0 : Int32) (3 : Int32) (f0_v42 p1) (3 : Int32) (f0_v86 p1) (3 : Int32) (f0_v142 p1)) (f0_A_r183_2_377 p1 p2 p5) (f5_x3n (0 : Int32) (3 : Int32) (f0_v42 p1) (3 : Int32) (f0_v86 p1) (3 : Int32) (f0_v142 p1)) (f0_A_r183_3_377 p1 p2 p5) (f5_x4n (0 : Int32) (3 : Int32) (f0_v42 p1) (3 : Int32) (f0_v86 p1) (3 : Int32) (f0_v142 p1)) (f0_A_r183_4_377 p1 p2 p5) (f5_x5n (0 : Int32) (3 : Int32) (f0_v42 p1) (3 : Int32) (f0_v86 p1) (3 : Int32) (f0_v142 p1)) (f0_A_r183_5_377 p1 p2 p5)) := o289_9
      have c321 : IAr Z T289.heap r183_1 .int (f5_x1n (0 : Int32) (3 : Int32) (f0_v42 p1) (3 : Int32) (f0_v86 p1) (3 : Int32) (f0_v142 p1)) (f8_o10 (f2_o0 (f0_v184 p3) (0 : Int64) (f0_v196 p3) (f0_v208 p3) (0 : Int32) (0 : Int64) (0 : Int32) (0 : Int32)) (f2_o2 (f0_v184 p3) (0 : Int64) (f0_v196 p3) (f0_v208 p3) (0 : Int32) (0 : Int64) (0 : Int32) (0 : Int32)) (f2_o3 (f0_v184 p3) (0 : Int64) (f0_v196 p3) (f0_v208 p3) (0 : Int32) (0 : Int64) (0 : Int32) (0 : Int32)) (f0_F_unsettled_b153_377 p1 p2 p5) (3 : Int32) (f0_v42 p1) (3 : Int32) (f0_v86 p1) (f5_x0n (0 : Int32) (3 : Int32) (f0_v42 p1) (3 : Int32) (f0_v86 p1) (3 : Int32) (f0_v142 p1)) (f0_A_r183_0_377 p1 p2 p5) (f5_x1n (0 : Int32) (3 : Int32) (f0_v42 p1) (3 : Int32) (f0_v86 p1) (3 : Int32) (f0_v142 p1)) (f0_A_r183_1_377 p1 p2 p5) (f5_x2n (0 : Int32) (3 : Int32) (f0_v42 p1) (3 : Int32) (f0_v86 p1) (3 : Int32) (f0_v142 p1)) (f0_A_r183_2_377 p1 p2 p5) (f5_x3n (0 : Int32) (3 : Int32) (f0_v42 p1) (3 : Int32) (f0_v86 p1) (3 : Int32) (f0_v142 p1)) (f0_A_r183_3_377 p1 p2 p5) (f5_x4n (0 : Int32) (3 : Int32) (f0_v42 p1) (3 : Int32) (f0_v86 p1) (3 : Int32) (f0_v142 p1)) (f0_A_r183_4_377 p1 p2 p5) (f5_x5n (0 : Int32) (3 : Int32) (f0_v42 p1) (3 : Int32) (f0_v86 p1) (3 : Int32) (f0_v142 p1)) (f0_A_r183_5_377 p1 p2 p5)) := o289_10
      have c322 : IAr Z T289.heap r183_2 .int (f5_x2n (0 : Int32) (3 : Int32) (f0_v42 p1) (3 : Int32) (f0_v86 p1) (3 : Int32) (f0_v142 p1)) (f8_o11 (f2_o0 (f0_v184 p3) (0 : Int64) (f0_v196 p3) (f0_v208 p3) (0 : Int32) (0 : Int64) (0 : Int32) (0 : Int32)) (f2_o2 (f0_v184 p3) (0 : Int64) (f0_v196 p3) (f0_v208 p3) (0 : Int32) (0 : Int64) (0 : Int32) (0 : Int32)) (f2_o3 (f0_v184 p3) (0 : Int64) (f0_v196 p3) (f0_v208 p3) (0 : Int32) (0 : Int64) (0 : Int32) (0 : Int32)) (f0_F_unsettled_b153_377 p1 p2 p5) (3 : Int32) (f0_v42 p1) (3 : Int32) (f0_v86 p1) (f5_x0n (0 : Int32) (3 : Int32) (f0_v42 p1) (3 : Int32) (f0_v86 p1) (3 : Int32) (f0_v142 p1)) (f0_A_r183_0_377 p1 p2 p5) (f5_x1n (0 : Int32) (3 : Int32) (f0_v42 p1) (3 : Int32) (f0_v86 p1) (3 : Int32) (f0_v142 p1)) (f0_A_r183_1_377 p1 p2 p5) (f5_x2n (0 : Int32) (3 : Int32) (f0_v42 p1) (3 : Int32) (f0_v86 p1) (3 : Int32) (f0_v142 p1)) (f0_A_r183_2_377 p1 p2 p5) (f5_x3n (0 : Int32) (3 : Int32) (f0_v42 p1) (3 : Int32) (f0_v86 p1) (3 : Int32) (f0_v142 p1)) (f0_A_r183_3_377 p1 p2 p5) (f5_x4n (0 : Int32) (3 : Int32) (f0_v42 p1) (3 : Int32) (f0_v86 p1) (3 : Int32) (f0_v142 p1)) (f0_A_r183_4_377 p1 p2 p5) (f5_x5n (0 : Int32) (3 : Int32) (f0_v42 p1) (3 : Int32) (f0_v86 p1) (3 : Int32) (f0_v142 p1)) (f0_A_r183_5_377 p1 p2 p5)) := o289_11
      have c323 : IAr Z T289.heap r183_3 .int (f5_x3n (0 : Int32) (3 : Int32) (f0_v42 p1) (3 : Int32) (f0_v86 p1) (3 : Int32) (f0_v142 p1)) (f8_o12 (f2_o0 (f0_v184 p3) (0 : Int64) (f0_v196 p3) (f0_v208 p3) (0 : Int32) (0 : Int64) (0 : Int32) (0 : Int32)) (f2_o2 (f0_v184 p3) (0 : Int64) (f0_v196 p3) (f0_v208 p3) (0 : Int32) (0 : Int64) (0 : Int32) (0 : Int32)) (f2_o3 (f0_v184 p3) (0 : Int64) (f0_v196 p3) (f0_v208 p3) (0 : Int32) (0 : Int64) (0 : Int32) (0 : Int32)) (f0_F_unsettled_b153_377 p1 p2 p5) (3 : Int32) (f0_v42 p1) (3 : Int32) (f0_v86 p1) (f5_x0n (0 : Int32) (3 : Int32) (f0_v42 p1) (3 : Int32) (f0_v86 p1) (3 : Int32) (f0_v142 p1)) (f0_A_r183_0_377 p1 p2 p5) (f5_x1n (0 : Int32) (3 : Int32) (f0_v42 p1) (3 : Int32) (f0_v86 p1) (3 : Int32) (f0_v142 p1)) (f0_A_r183_1_377 p1 p2 p5) (f5_x2n (0 : Int32) (3 : Int32) (f0_v42 p1) (3 : Int32) (f0_v86 p1) (3 : Int32) (f0_v142 p1)) (f0_A_r183_2_377 p1 p2 p5) (f5_x3n (0 : Int32) (3 : Int32) (f0_v42 p1) (3 : Int32) (f0_v86 p1) (3 : Int32) (f0_v142 p1)) (f0_A_r183_3_377 p1 p2 p5) (f5_x4n (0 : Int32) (3 : Int32) (f0_v42 p1) (3 : Int32) (f0_v86 p1) (3 : Int32) (f0_v142 p1)) (f0_A_r183_4_377 p1 p2 p5) (f5_x5n (0 : Int32) (3 : Int32) (f0_v42 p1) (3 : Int32) (f0_v86 p1) (3 : Int32) (f0_v142 p1)) (f0_A_r183_5_377 p1 p2 p5)) := o289_12
      have c324 : IAr Z T289.heap r183_4 .int (f5_x4n (0 : Int32) (3 : Int32) (f0_v42 p1) (3 : Int32) (f0_v86 p1) (3 : Int32) (f0_v142 p1)) (f8_o13 (f2_o0 (f0_v184 p3) (0 : Int64) (f0_v196 p3) (f0_v208 p3) (0 : Int32) (0 : Int64) (0 : Int32) (0 : Int32)) (f2_o2 (f0_v184 p3) (0 : Int64) (f0_v196 p3) (f0_v208 p3) (0 : Int32) (0 : Int64) (0 : Int32) (0 : Int32)) (f2_o3 (f0_v184 p3) (0 : Int64) (f0_v196 p3) (f0_v208 p3) (0 : Int32) (0 : Int64) (0 : Int32) (0 : Int32)) (f0_F_unsettled_b153_377 p1 p2 p5) (3 : Int32) (f0_v42 p1) (3 : Int32) (f0_v86 p1) (f5_x0n (0 : Int32) (3 : Int32) (f0_v42 p1) (3 : Int32) (f0_v86 p1) (3 : Int32) (f0_v142 p1)) (f0_A_r183_0_377 p1 p2 p5) (f5_x1n (0 : Int32) (3 : Int32) (f0_v42 p1) (3 : Int32) (f0_v86 p1) (3 : Int32) (f0_v142 p1)) (f0_A_r183_1_377 p1 p2 p5) (f5_x2n (0 : Int32) (3 : Int32) (f0_v42 p1) (3 : Int32) (f0_v86 p1) (3 : Int32) (f0_v142 p1)) (f0_A_r183_2_377 p1 p2 p5) (f5_x3n (0 : Int32) (3 : Int32) (f0_v42 p1) (3 : Int32) (f0_v86 p1) (3 : Int32) (f0_v142 p1)) (f0_A_r183_3_377 p1 p2 p5) (f5_x4n (0 : Int32) (3 : Int32) (f0_v42 p1) (3 : Int32) (f0_v86 p1) (3 : Int32) (f0_v142 p1)) (f0_A_r183_4_377 p1 p2 p5) (f5_x5n (0 : Int32) (3 : Int32) (f0_v42 p1) (3 : Int32) (f0_v86 p1) (3 : Int32) (f0_v142 p1)) (f0_A_r183_5_377 p1 p2 p5)) := o289_13
      have c325 : IAr Z T289.heap r183_5 .boolean (f5_x5n (0 : Int32) (3 : Int32) (f0_v42 p1) (3 : Int32) (f0_v86 p1) (3 : Int32) (f0_v142 p1)) (f8_o14 (f2_o0 (f0_v184 p3) (0 : Int64) (f0_v196 p3) (f0_v208 p3) (0 : Int32) (0 : Int64) (0 : Int32) (0 : Int32)) (f2_o2 (f0_v184 p3) (0 : Int64) (f0_v196 p3) (f0_v208 p3) (0 : Int32) (0 : Int64) (0 : Int32) (0 : Int32)) (f2_o3 (f0_v184 p3) (0 : Int64) (f0_v196 p3) (f0_v208 p3) (0 : Int32) (0 : Int64) (0 : Int32) (0 : Int32)) (f0_F_unsettled_b153_377 p1 p2 p5) (3 : Int32) (f0_v42 p1) (3 : Int32) (f0_v86 p1) (f5_x0n (0 : Int32) (3 : Int32) (f0_v42 p1) (3 : Int32) (f0_v86 p1) (3 : Int32) (f0_v142 p1)) (f0_A_r183_0_377 p1 p2 p5) (f5_x1n (0 : Int32) (3 : Int32) (f0_v42 p1) (3 : Int32) (f0_v86 p1) (3 : Int32) (f0_v142 p1)) (f0_A_r183_1_377 p1 p2 p5) (f5_x2n (0 : Int32) (3 : Int32) (f0_v42 p1) (3 : Int32) (f0_v86 p1) (3 : Int32) (f0_v142 p1)) (f0_A_r183_2_377 p1 p2 p5) (f5_x3n (0 : Int32) (3 : Int32) (f0_v42 p1) (3 : Int32) (f0_v86 p1) (3 : Int32) (f0_v142 p1)) (f0_A_r183_3_377 p1 p2 p5) (f5_x4n (0 : Int32) (3 : Int32) (f0_v42 p1) (3 : Int32) (f0_v86 p1) (3 : Int32) (f0_v142 p1)) (f0_A_r183_4_377 p1 p2 p5) (f5_x5n (0 : Int32) (3 : Int32) (f0_v42 p1) (3 : Int32) (f0_v86 p1) (3 : Int32) (f0_v142 p1)) (f0_A_r183_5_377 p1 p2 p5)) := o289_14
      have eq50 := (show (f0_F_unsettled_b153_389 p1 p2 p3 p5) = (f8_o8 (f2_o0 (f0_v184 p3) (0 : Int64) (f0_v196 p3) (f0_v208 p3) (0 : Int32) (0 : Int64) (0 : Int32) (0 : Int32)) (f2_o2 (f0_v184 p3) (0 : Int64) (f0_v196 p3) (f0_v208 p3) (0 : Int32) (0 : Int64) (0 : Int32) (0 : Int32)) (f2_o3 (f0_v184 p3) (0 : Int64) (f0_v196 p3) (f0_v208 p3) (0 : Int32) (0 : Int64) (0 : Int32) (0 : Int32)) (f0_F_unsettled_b153_377 p1 p2 p5) (3 : Int32) (f0_v42 p1) (3 : Int32) (f0_v86 p1) (f5_x0n (0 : Int32) (3 : Int32) (f0_v42 p1) (3 : Int32) (f0_v86 p1) (3 : Int32) (f0_v142 p1)) (f0_A_r183_0_377 p1 p2 p5) (f5_x1n (0 : Int32) (3 : Int32) (f0_v42 p1) (3 : Int32) (f0_v86 p1) (3 : Int32) (f0_v142 p1)) (f0_A_r183_1_377 p1 p2 p5) (f5_x2n (0 : Int32) (3 : Int32) (f0_v42 p1) (3 : Int32) (f0_v86 p1) (3 : Int32) (f0_v142 p1)) (f0_A_r183_2_377 p1 p2 p5) (f5_x3n (0 : Int32) (3 : Int32) (f0_v42 p1) (3 : Int32) (f0_v86 p1) (3 : Int32) (f0_v142 p1)) (f0_A_r183_3_377 p1 p2 p5) (f5_x4n (0 : Int32) (3 : Int32) (f0_v42 p1) (3 : Int32) (f0_v86 p1) (3 : Int32) (f0_v142 p1)) (f0_A_r183_4_377 p1 p2 p5) (f5_x5n (0 : Int32) (3 : Int32) (f0_v42 p1) (3 : Int32) (f0_v86 p1) (3 : Int32) (f0_v142 p1)) (f0_A_r183_5_377 p1 p2 p5)) from by unfold f0_F_unsettled_b153_389; simp only [if_neg hc379])
      have eq51 := (show (f0_A_r183_0_389 p1 p2 p3 p5) = (f8_o9 (f2_o0 (f0_v184 p3) (0 : Int64) (f0_v196 p3) (f0_v208 p3) (0 : Int32) (0 : Int64) (0 : Int32) (0 : Int32)) (f2_o2 (f0_v184 p3) (0 : Int64) (f0_v196 p3) (f0_v208 p3) (0 : Int32) (0 : Int64) (0 : Int32) (0 : Int32)) (f2_o3 (f0_v184 p3) (0 : Int64) (f0_v196 p3) (f0_v208 p3) (0 : Int32) (0 : Int64) (0 : Int32) (0 : Int32)) (f0_F_unsettled_b153_377 p1 p2 p5) (3 : Int32) (f0_v42 p1) (3 : Int32) (f0_v86 p1) (f5_x0n (0 : Int32) (3 : Int32) (f0_v42 p1) (3 : Int32) (f0_v86 p1) (3 : Int32) (f0_v142 p1)) (f0_A_r183_0_377 p1 p2 p5) (f5_x1n (0 : Int32) (3 : Int32) (f0_v42 p1) (3 : Int32) (f0_v86 p1) (3 : Int32) (f0_v142 p1)) (f0_A_r183_1_377 p1 p2 p5) (f5_x2n (0 : Int32) (3 : Int32) (f0_v42 p1) (3 : Int32) (f0_v86 p1) (3 : Int32) (f0_v142 p1)) (f0_A_r183_2_377 p1 p2 p5) (f5_x3n (0 : Int32) (3 : Int32) (f0_v42 p1) (3 : Int32) (f0_v86 p1) (3 : Int32) (f0_v142 p1)) (f0_A_r183_3_377 p1 p2 p5) (f5_x4n (0 : Int32) (3 : Int32) (f0_v42 p1) (3 : Int32) (f0_v86 p1) (3 : Int32) (f0_v142 p1)) (f0_A_r183_4_377 p1 p2 p5) (f5_x5n (0 : Int32) (3 : Int32) (f0_v42 p1) (3 : Int32) (f0_v86 p1) (3 : Int32) (f0_v142 p1)) (f0_A_r183_5_377 p1 p2 p5)) from by unfold f0_A_r183_0_389; simp only [if_neg hc379])
      have eq52 := (show (f0_A_r183_1_389 p1 p2 p3 p5) = (f8_o10 (f2_o0 (f0_v184 p3) (0 : Int64) (f0_v196 p3) (f0_v208 p3) (0 : Int32) (0 : Int64) (0 : Int32) (0 : Int32)) (f2_o2 (f0_v184 p3) (0 : Int64) (f0_v196 p3) (f0_v208 p3) (0 : Int32) (0 : Int64) (0 : Int32) (0 : Int32)) (f2_o3 (f0_v184 p3) (0 : Int64) (f0_v196 p3) (f0_v208 p3) (0 : Int32) (0 : Int64) (0 : Int32) (0 : Int32)) (f0_F_unsettled_b153_377 p1 p2 p5) (3 : Int32) (f0_v42 p1) (3 : Int32) (f0_v86 p1) (f5_x0n (0 : Int32) (3 : Int32) (f0_v42 p1) (3 : Int32) (f0_v86 p1) (3 : Int32) (f0_v142 p1)) (f0_A_r183_0_377 p1 p2 p5) (f5_x1n (0 : Int32) (3 : Int32) (f0_v42 p1) (3 : Int32) (f0_v86 p1) (3 : Int32) (f0_v142 p1)) (f0_A_r183_1_377 p1 p2 p5) (f5_x2n (0 : Int32) (3 : Int32) (f0_v42 p1) (3 : Int32) (f0_v86 p1) (3 : Int32) (f0_v142 p1)) (f0_A_r183_2_377 p1 p2 p5) (f5_x3n (0 : Int32) (3 : Int32) (f0_v42 p1) (3 : Int32) (f0_v86 p1) (3 : Int32) (f0_v142 p1)) (f0_A_r183_3_377 p1 p2 p5) (f5_x4n (0 : Int32) (3 : Int32) (f0_v42 p1) (3 : Int32) (f0_v86 p1) (3 : Int32) (f0_v142 p1)) (f0_A_r183_4_377 p1 p2 p5) (f5_x5n (0 : Int32) (3 : Int32) (f0_v42 p1) (3 : Int32) (f0_v86 p1) (3 : Int32) (f0_v142 p1)) (f0_A_r183_5_377 p1 p2 p5)) from by unfold f0_A_r183_1_389; simp only [if_neg hc379])
      have eq53 := (show (f0_A_r183_2_389 p1 p2 p3 p5) = (f8_o11 (f2_o0 (f0_v184 p3) (0 : Int64) (f0_v196 p3) (f0_v208 p3) (0 : Int32) (0 : Int64) (0 : Int32) (0 : Int32)) (f2_o2 (f0_v184 p3) (0 : Int64) (f0_v196 p3) (f0_v208 p3) (0 : Int32) (0 : Int64) (0 : Int32) (0 : Int32)) (f2_o3 (f0_v184 p3) (0 : Int64) (f0_v196 p3) (f0_v208 p3) (0 : Int32) (0 : Int64) (0 : Int32) (0 : Int32)) (f0_F_unsettled_b153_377 p1 p2 p5) (3 : Int32) (f0_v42 p1) (3 : Int32) (f0_v86 p1) (f5_x0n (0 : Int32) (3 : Int32) (f0_v42 p1) (3 : Int32) (f0_v86 p1) (3 : Int32) (f0_v142 p1)) (f0_A_r183_0_377 p1 p2 p5) (f5_x1n (0 : Int32) (3 : Int32) (f0_v42 p1) (3 : Int32) (f0_v86 p1) (3 : Int32) (f0_v142 p1)) (f0_A_r183_1_377 p1 p2 p5) (f5_x2n (0 : Int32) (3 : Int32) (f0_v42 p1) (3 : Int32) (f0_v86 p1) (3 : Int32) (f0_v142 p1)) (f0_A_r183_2_377 p1 p2 p5) (f5_x3n (0 : Int32) (3 : Int32) (f0_v42 p1) (3 : Int32) (f0_v86 p1) (3 : Int32) (f0_v142 p1)) (f0_A_r183_3_377 p1 p2 p5) (f5_x4n (0 : Int32) (3 : Int32) (f0_v42 p1) (3 : Int32) (f0_v86 p1) (3 : Int32) (f0_v142 p1)) (f0_A_r183_4_377 p1 p2 p5) (f5_x5n (0 : Int32) (3 : Int32) (f0_v42 p1) (3 : Int32) (f0_v86 p1) (3 : Int32) (f0_v142 p1)) (f0_A_r183_5_377 p1 p2 p5)) from by unfold f0_A_r183_2_389; simp only [if_neg hc379])
      have eq54 := (show (f0_A_r183_3_389 p1 p2 p3 p5) = (f8_o12 (f2_o0 (f0_v184 p3) (0 : Int64) (f0_v196 p3) (f0_v208 p3) (0 : Int32) (0 : Int64) (0 : Int32) (0 : Int32)) (f2_o2 (f0_v184 p3) (0 : Int64) (f0_v196 p3) (f0_v208 p3) (0 : Int32) (0 : Int64) (0 : Int32) (0 : Int32)) (f2_o3 (f0_v184 p3) (0 : Int64) (f0_v196 p3) (f0_v208 p3) (0 : Int32) (0 : Int64) (0 : Int32) (0 : Int32)) (f0_F_unsettled_b153_377 p1 p2 p5) (3 : Int32) (f0_v42 p1) (3 : Int32) (f0_v86 p1) (f5_x0n (0 : Int32) (3 : Int32) (f0_v42 p1) (3 : Int32) (f0_v86 p1) (3 : Int32) (f0_v142 p1)) (f0_A_r183_0_377 p1 p2 p5) (f5_x1n (0 : Int32) (3 : Int32) (f0_v42 p1) (3 : Int32) (f0_v86 p1) (3 : Int32) (f0_v142 p1)) (f0_A_r183_1_377 p1 p2 p5) (f5_x2n (0 : Int32) (3 : Int32) (f0_v42 p1) (3 : Int32) (f0_v86 p1) (3 : Int32) (f0_v142 p1)) (f0_A_r183_2_377 p1 p2 p5) (f5_x3n (0 : Int32) (3 : Int32) (f0_v42 p1) (3 : Int32) (f0_v86 p1) (3 : Int32) (f0_v142 p1)) (f0_A_r183_3_377 p1 p2 p5) (f5_x4n (0 : Int32) (3 : Int32) (f0_v42 p1) (3 : Int32) (f0_v86 p1) (3 : Int32) (f0_v142 p1)) (f0_A_r183_4_377 p1 p2 p5) (f5_x5n (0 : Int32) (3 : Int32) (f0_v42 p1) (3 : Int32) (f0_v86 p1) (3 : Int32) (f0_v142 p1)) (f0_A_r183_5_377 p1 p2 p5)) from by unfold f0_A_r183_3_389; simp only [if_neg hc379])
      have eq55 := (show (f0_A_r183_4_389 p1 p2 p3 p5) = (f8_o13 (f2_o0 (f0_v184 p3) (0 : Int64) (f0_v196 p3) (f0_v208 p3) (0 : Int32) (0 : Int64) (0 : Int32) (0 : Int32)) (f2_o2 (f0_v184 p3) (0 : Int64) (f0_v196 p3) (f0_v208 p3) (0 : Int32) (0 : Int64) (0 : Int32) (0 : Int32)) (f2_o3 (f0_v184 p3) (0 : Int64) (f0_v196 p3) (f0_v208 p3) (0 : Int32) (0 : Int64) (0 : Int32) (0 : Int32)) (f0_F_unsettled_b153_377 p1 p2 p5) (3 : Int32) (f0_v42 p1) (3 : Int32) (f0_v86 p1) (f5_x0n (0 : Int32) (3 : Int32) (f0_v42 p1) (3 : Int32) (f0_v86 p1) (3 : Int32) (f0_v142 p1)) (f0_A_r183_0_377 p1 p2 p5) (f5_x1n (0 : Int32) (3 : Int32) (f0_v42 p1) (3 : Int32) (f0_v86 p1) (3 : Int32) (f0_v142 p1)) (f0_A_r183_1_377 p1 p2 p5) (f5_x2n (0 : Int32) (3 : Int32) (f0_v42 p1) (3 : Int32) (f0_v86 p1) (3 : Int32) (f0_v142 p1)) (f0_A_r183_2_377 p1 p2 p5) (f5_x3n (0 : Int32) (3 : Int32) (f0_v42 p1) (3 : Int32) (f0_v86 p1) (3 : Int32) (f0_v142 p1)) (f0_A_r183_3_377 p1 p2 p5) (f5_x4n (0 : Int32) (3 : Int32) (f0_v42 p1) (3 : Int32) (f0_v86 p1) (3 : Int32) (f0_v142 p1)) (f0_A_r183_4_377 p1 p2 p5) (f5_x5n (0 : Int32) (3 : Int32) (f0_v42 p1) (3 : Int32) (f0_v86 p1) (3 : Int32) (f0_v142 p1)) (f0_A_r183_5_377 p1 p2 p5)) from by unfold f0_A_r183_4_389; simp only [if_neg hc379])
      have eq56 := (show (f0_A_r183_5_389 p1 p2 p3 p5) = (f8_o14 (f2_o0 (f0_v184 p3) (0 : Int64) (f0_v196 p3) (f0_v208 p3) (0 : Int32) (0 : Int64) (0 : Int32) (0 : Int32)) (f2_o2 (f0_v184 p3) (0 : Int64) (f0_v196 p3) (f0_v208 p3) (0 : Int32) (0 : Int64) (0 : Int32) (0 : Int32)) (f2_o3 (f0_v184 p3) (0 : Int64) (f0_v196 p3) (f0_v208 p3) (0 : Int32) (0 : Int64) (0 : Int32) (0 : Int32)) (f0_F_unsettled_b153_377 p1 p2 p5) (3 : Int32) (f0_v42 p1) (3 : Int32) (f0_v86 p1) (f5_x0n (0 : Int32) (3 : Int32) (f0_v42 p1) (3 : Int32) (f0_v86 p1) (3 : Int32) (f0_v142 p1)) (f0_A_r183_0_377 p1 p2 p5) (f5_x1n (0 : Int32) (3 : Int32) (f0_v42 p1) (3 : Int32) (f0_v86 p1) (3 : Int32) (f0_v142 p1)) (f0_A_r183_1_377 p1 p2 p5) (f5_x2n (0 : Int32) (3 : Int32) (f0_v42 p1) (3 : Int32) (f0_v86 p1) (3 : Int32) (f0_v142 p1)) (f0_A_r183_2_377 p1 p2 p5) (f5_x3n (0 : Int32) (3 : Int32) (f0_v42 p1) (3 : Int32) (f0_v86 p1) (3 : Int32) (f0_v142 p1)) (f0_A_r183_3_377 p1 p2 p5) (f5_x4n (0 : Int32) (3 : Int32) (f0_v42 p1) (3 : Int32) (f0_v86 p1) (3 : Int32) (f0_v142 p1)) (f0_A_r183_4_377 p1 p2 p5) (f5_x5n (0 : Int32) (3 : Int32) (f0_v42 p1) (3 : Int32) (f0_v86 p1) (3 : Int32) (f0_v142 p1)) (f0_A_r183_5_377 p1 p2 p5)) from by unfold f0_A_r183_5_389; simp only [if_neg hc379])
      refine ⟨T289, _, T289.heap, X289, rfl, N289, c290, c291, c292, c293, c294, c295, c296, c297, c298, c299, c300, c301, c302, c303, c304, c305, c306, c307, c308, c309, c310, c311, c312, c313, c314, c315, c316, c317, c318, (by simp only [eq50, eq51, eq52, eq53, eq54, eq55, eq56]; exact c319), (by simp only [eq50, eq51, eq52, eq53, eq54, eq55, eq56]; exact c320), (by simp only [eq50, eq51, eq52, eq53, eq54, eq55, eq56]; exact c321), (by simp only [eq50, eq51, eq52, eq53, eq54, eq55, eq56]; exact c322), (by simp only [eq50, eq51, eq52, eq53, eq54, eq55, eq56]; exact c323), (by simp only [eq50, eq51, eq52, eq53, eq54, eq55, eq56]; exact c324), (by simp only [eq50, eq51, eq52, eq53, eq54, eq55, eq56]; exact c325), fun t k => ?_⟩
      try rw [eq50] at k
      try rw [eq51] at k
      try rw [eq52] at k
      try rw [eq53] at k
      try rw [eq54] at k
      try rw [eq55] at k
      try rw [eq56] at k
      refine pre41 t ?_
      refine XS.ifNo X288.here hx rfl (hb hby at_379) rfl ((if0 _ _).trans (feq hc379).1) ?_
      show Steps p.tables e below (T288.setTop (mkF m 382 #[.val (.int p1), .val (.int p2), .val (.int p3), .val (.int p4), .val (.int p5), .val (.int ((p1 &&& (3 : Int32)) - (1 : Int32))), .val (.int (f0_v14 p1)), .val (.int (f0_v23 p1)), .val (.ref b6), .val (.ref b18), .val (.ref b37), .val (.int (f0_v151 p2)), .val (.int (f0_v163 p2)), .val (.int (f0_v175 p2)), .val (.int (f0_v184 p3)), .val (.int (f0_v196 p3)), .val (.int (f0_v208 p3)), .val (.int (f0_v217 p4)), .val (.int (f0_v229 p4)), .val (.int (f0_v241 p4)), .val (.int (f0_v251 p5)), .val (.int (f0_v261 p5)), .val (.int (f0_s0_274 p5)), .val (.int (f0_s0_287 p5)), .val (.int (f0_s0_300 p5)), .val (.ref b60), .val (.ref b81), .val (.ref b112), .val (.ref b153), .unset, .unset, .unset, .unset, .unset] [])) _
      refine XS.aload X288.here hx rfl (hb hby at_382) rfl rfl ?_
      refine XS.aload X288.here hx rfl (hb hby at_384) rfl rfl ?_
      show Steps p.tables e below (T288.setTop (mkF m 386 #[.val (.int p1), .val (.int p2), .val (.int p3), .val (.int p4), .val (.int p5), .val (.int ((p1 &&& (3 : Int32)) - (1 : Int32))), .val (.int (f0_v14 p1)), .val (.int (f0_v23 p1)), .val (.ref b6), .val (.ref b18), .val (.ref b37), .val (.int (f0_v151 p2)), .val (.int (f0_v163 p2)), .val (.int (f0_v175 p2)), .val (.int (f0_v184 p3)), .val (.int (f0_v196 p3)), .val (.int (f0_v208 p3)), .val (.int (f0_v217 p4)), .val (.int (f0_v229 p4)), .val (.int (f0_v241 p4)), .val (.int (f0_v251 p5)), .val (.int (f0_v261 p5)), .val (.int (f0_s0_274 p5)), .val (.int (f0_s0_287 p5)), .val (.int (f0_s0_300 p5)), .val (.ref b60), .val (.ref b81), .val (.ref b112), .val (.ref b153), .unset, .unset, .unset, .unset, .unset] [(.ref b81), (.ref b153)])) _
      refine st289.trans ?_
      exact k
  have pre57 : ∀ t, Steps p.tables e below (T363.setTop (mkF m 391 #[.val (.int p1), .val (.int p2), .val (.int p3), .val (.int p4), .val (.int p5), .val (.int ((p1 &&& (3 : Int32)) - (1 : Int32))), .val (.int (f0_v14 p1)), .val (.int (f0_v23 p1)), .val (.ref b6), .val (.ref b18), .val (.ref b37), .val (.int (f0_v151 p2)), .val (.int (f0_v163 p2)), .val (.int (f0_v175 p2)), .val (.int (f0_v184 p3)), .val (.int (f0_v196 p3)), .val (.int (f0_v208 p3)), .val (.int (f0_v217 p4)), .val (.int (f0_v229 p4)), .val (.int (f0_v241 p4)), .val (.int (f0_v251 p5)), .val (.int (f0_v261 p5)), .val (.int (f0_s0_274 p5)), .val (.int (f0_s0_287 p5)), .val (.int (f0_s0_300 p5)), .val (.ref b60), .val (.ref b81), .val (.ref b112), .val (.ref b153), .unset, .unset, .unset, .unset, .unset] [(.int (f0_s0_300 p5))])) t → Steps p.tables e below (s₁.setTop (entryFrame m #[(.int p1), (.int p2), (.int p3), (.int p4), (.int p5)] maxLocals)) t := by
    intro t k
    refine pre42 t ?_
    refine XS.iload X363.here hx rfl (hb hby at_389) rfl ?_
    exact k
  obtain ⟨T438, Lmpre58, h401, X438, e438, N438, c402, c403, c404, c405, c406, c407, c408, c409, c410, c411, c412, c413, c414, c415, c416, c417, c418, c419, c420, c421, c422, c423, c424, c425, c426, c427, c428, c429, c430, c431, c432, c433, c434, c435, c436, c437, pre58⟩ : ∃ (T' : State) (L' : List Loc) (h401 : Heap), Stand p l e room_1 s m #[(.int p1), (.int p2), (.int p3), (.int p4), (.int p5)] below meth c T' L' 13 48 ∧ T'.heap = h401 ∧ Fr n0 L' ∧ n0 ≤ h401.size ∧ IAr Z h401 b6 .int (3 : Int32) (f0_v42 p1) ∧ IAr Z h401 b18 .int (3 : Int32) (f0_v86 p1) ∧ Exa Z h401 b37 "[Z" ∧ IAr Z h401 b37 .boolean (3 : Int32) (f0_v142 p1) ∧ Exa Z h401 b60 "com/example/podflow/podflow/simulation/Pickup" ∧ Fld Z h401 b60 "com/example/podflow/podflow/simulation/Pickup" "vehicle" "I" (.int (f2_o0 (f0_v151 p2) (0 : Int64) (f0_v163 p2) (f0_v175 p2) (0 : Int32) (0 : Int64) (0 : Int32) (0 : Int32))) ∧ Fld Z h401 b60 "com/example/podflow/podflow/simulation/Pickup" "time" "J" (.long (f2_o1 (f0_v151 p2) (0 : Int64) (f0_v163 p2) (f0_v175 p2) (0 : Int32) (0 : Int64) (0 : Int32) (0 : Int32))) ∧ Fld Z h401 b60 "com/example/podflow/podflow/simulation/Pickup" "emptyFrom" "I" (.int (f2_o2 (f0_v151 p2) (0 : Int64) (f0_v163 p2) (f0_v175 p2) (0 : Int32) (0 : Int64) (0 : Int32) (0 : Int32))) ∧ Fld Z h401 b60 "com/example/podflow/podflow/simulation/Pickup" "emptyTo" "I" (.int (f2_o3 (f0_v151 p2) (0 : Int64) (f0_v163 p2) (f0_v175 p2) (0 : Int32) (0 : Int64) (0 : Int32) (0 : Int32))) ∧ Exa Z h401 b81 "com/example/podflow/podflow/simulation/Pickup" ∧ Fld Z h401 b81 "com/example/podflow/podflow/simulation/Pickup" "vehicle" "I" (.int (f2_o0 (f0_v184 p3) (0 : Int64) (f0_v196 p3) (f0_v208 p3) (0 : Int32) (0 : Int64) (0 : Int32) (0 : Int32))) ∧ Fld Z h401 b81 "com/example/podflow/podflow/simulation/Pickup" "time" "J" (.long (f2_o1 (f0_v184 p3) (0 : Int64) (f0_v196 p3) (f0_v208 p3) (0 : Int32) (0 : Int64) (0 : Int32) (0 : Int32))) ∧ Fld Z h401 b81 "com/example/podflow/podflow/simulation/Pickup" "emptyFrom" "I" (.int (f2_o2 (f0_v184 p3) (0 : Int64) (f0_v196 p3) (f0_v208 p3) (0 : Int32) (0 : Int64) (0 : Int32) (0 : Int32))) ∧ Fld Z h401 b81 "com/example/podflow/podflow/simulation/Pickup" "emptyTo" "I" (.int (f2_o3 (f0_v184 p3) (0 : Int64) (f0_v196 p3) (f0_v208 p3) (0 : Int32) (0 : Int64) (0 : Int32) (0 : Int32))) ∧ Exa Z h401 b112 "com/example/podflow/podflow/simulation/Pickup" ∧ Fld Z h401 b112 "com/example/podflow/podflow/simulation/Pickup" "vehicle" "I" (.int (f2_o0 (f0_v217 p4) (0 : Int64) (f0_v229 p4) (f0_v241 p4) (0 : Int32) (0 : Int64) (0 : Int32) (0 : Int32))) ∧ Fld Z h401 b112 "com/example/podflow/podflow/simulation/Pickup" "time" "J" (.long (f2_o1 (f0_v217 p4) (0 : Int64) (f0_v229 p4) (f0_v241 p4) (0 : Int32) (0 : Int64) (0 : Int32) (0 : Int32))) ∧ Fld Z h401 b112 "com/example/podflow/podflow/simulation/Pickup" "emptyFrom" "I" (.int (f2_o2 (f0_v217 p4) (0 : Int64) (f0_v229 p4) (f0_v241 p4) (0 : Int32) (0 : Int64) (0 : Int32) (0 : Int32))) ∧ Fld Z h401 b112 "com/example/podflow/podflow/simulation/Pickup" "emptyTo" "I" (.int (f2_o3 (f0_v217 p4) (0 : Int64) (f0_v229 p4) (f0_v241 p4) (0 : Int32) (0 : Int64) (0 : Int32) (0 : Int32))) ∧ Exa Z h401 b153 "com/example/podflow/podflow/simulation/Ballot" ∧ Fld Z h401 b153 "com/example/podflow/podflow/simulation/Ballot" "idleAt" "[I" (.ref b6) ∧ Fld Z h401 b153 "com/example/podflow/podflow/simulation/Ballot" "idleCount" "[I" (.ref b18) ∧ Fld Z h401 b153 "com/example/podflow/podflow/simulation/Ballot" "open" "[Z" (.ref r183_0) ∧ Fld Z h401 b153 "com/example/podflow/podflow/simulation/Ballot" "served" "[I" (.ref r183_1) ∧ Fld Z h401 b153 "com/example/podflow/podflow/simulation/Ballot" "servedHome" "[I" (.ref r183_2) ∧ Fld Z h401 b153 "com/example/podflow/podflow/simulation/Ballot" "ownLeaving" "[I" (.ref r183_3) ∧ Fld Z h401 b153 "com/example/podflow/podflow/simulation/Ballot" "anyLeaving" "[I" (.ref r183_4) ∧ Fld Z h401 b153 "com/example/podflow/podflow/simulation/Ballot" "counted" "[Z" (.ref r183_5) ∧ Fld Z h401 b153 "com/example/podflow/podflow/simulation/Ballot" "unsettled" "I" (.int (f0_F_unsettled_b153_401 p1 p2 p3 p4 p5)) ∧ IAr Z h401 r183_0 .boolean (f5_x0n (0 : Int32) (3 : Int32) (f0_v42 p1) (3 : Int32) (f0_v86 p1) (3 : Int32) (f0_v142 p1)) (f0_A_r183_0_401 p1 p2 p3 p4 p5) ∧ IAr Z h401 r183_1 .int (f5_x1n (0 : Int32) (3 : Int32) (f0_v42 p1) (3 : Int32) (f0_v86 p1) (3 : Int32) (f0_v142 p1)) (f0_A_r183_1_401 p1 p2 p3 p4 p5) ∧ IAr Z h401 r183_2 .int (f5_x2n (0 : Int32) (3 : Int32) (f0_v42 p1) (3 : Int32) (f0_v86 p1) (3 : Int32) (f0_v142 p1)) (f0_A_r183_2_401 p1 p2 p3 p4 p5) ∧ IAr Z h401 r183_3 .int (f5_x3n (0 : Int32) (3 : Int32) (f0_v42 p1) (3 : Int32) (f0_v86 p1) (3 : Int32) (f0_v142 p1)) (f0_A_r183_3_401 p1 p2 p3 p4 p5) ∧ IAr Z h401 r183_4 .int (f5_x4n (0 : Int32) (3 : Int32) (f0_v42 p1) (3 : Int32) (f0_v86 p1) (3 : Int32) (f0_v142 p1)) (f0_A_r183_4_401 p1 p2 p3 p4 p5) ∧ IAr Z h401 r183_5 .boolean (f5_x5n (0 : Int32) (3 : Int32) (f0_v42 p1) (3 : Int32) (f0_v86 p1) (3 : Int32) (f0_v142 p1)) (f0_A_r183_5_401 p1 p2 p3 p4 p5) ∧ ∀ t, Steps p.tables e below (T'.setTop (mkF m 401 #[.val (.int p1), .val (.int p2), .val (.int p3), .val (.int p4), .val (.int p5), .val (.int ((p1 &&& (3 : Int32)) - (1 : Int32))), .val (.int (f0_v14 p1)), .val (.int (f0_v23 p1)), .val (.ref b6), .val (.ref b18), .val (.ref b37), .val (.int (f0_v151 p2)), .val (.int (f0_v163 p2)), .val (.int (f0_v175 p2)), .val (.int (f0_v184 p3)), .val (.int (f0_v196 p3)), .val (.int (f0_v208 p3)), .val (.int (f0_v217 p4)), .val (.int (f0_v229 p4)), .val (.int (f0_v241 p4)), .val (.int (f0_v251 p5)), .val (.int (f0_v261 p5)), .val (.int (f0_s0_274 p5)), .val (.int (f0_s0_287 p5)), .val (.int (f0_s0_300 p5)), .val (.ref b60), .val (.ref b81), .val (.ref b112), .val (.ref b153), .unset, .unset, .unset, .unset, .unset] [])) t → Steps p.tables e below (s₁.setTop (entryFrame m #[(.int p1), (.int p2), (.int p3), (.int p4), (.int p5)] maxLocals)) t := by
    by_cases hc391 : (f0_s0_300 p5) = (0 : Int32)
    · have eq59 := (show (f0_F_unsettled_b153_401 p1 p2 p3 p4 p5) = (f0_F_unsettled_b153_389 p1 p2 p3 p5) from by unfold f0_F_unsettled_b153_401; simp only [if_pos hc391])
      have eq60 := (show (f0_A_r183_0_401 p1 p2 p3 p4 p5) = (f0_A_r183_0_389 p1 p2 p3 p5) from by unfold f0_A_r183_0_401; simp only [if_pos hc391])
      have eq61 := (show (f0_A_r183_1_401 p1 p2 p3 p4 p5) = (f0_A_r183_1_389 p1 p2 p3 p5) from by unfold f0_A_r183_1_401; simp only [if_pos hc391])
      have eq62 := (show (f0_A_r183_2_401 p1 p2 p3 p4 p5) = (f0_A_r183_2_389 p1 p2 p3 p5) from by unfold f0_A_r183_2_401; simp only [if_pos hc391])
      have eq63 := (show (f0_A_r183_3_401 p1 p2 p3 p4 p5) = (f0_A_r183_3_389 p1 p2 p3 p5) from by unfold f0_A_r183_3_401; simp only [if_pos hc391])
      have eq64 := (show (f0_A_r183_4_401 p1 p2 p3 p4 p5) = (f0_A_r183_4_389 p1 p2 p3 p5) from by unfold f0_A_r183_4_401; simp only [if_pos hc391])
      have eq65 := (show (f0_A_r183_5_401 p1 p2 p3 p4 p5) = (f0_A_r183_5_389 p1 p2 p3 p5) from by unfold f0_A_r183_5_401; simp only [if_pos hc391])
      refine ⟨T363, _, h326, X363, e363, N363, c327, c328, c329, c330, c331, c332, c333, c334, c335, c336, c337, c338, c339, c340, c341, c342, c343, c344, c345, c346, c347, c348, c349, c350, c351, c352, c353, c354, c355, (by simp only [eq59, eq60, eq61, eq62, eq63, eq64, eq65]; exact c356), (by simp only [eq59, eq60, eq61, eq62, eq63, eq64, eq65]; exact c357), (by simp only [eq59, eq60, eq61, eq62, eq63, eq64, eq65]; exact c358), (by simp only [eq59, eq60, eq61, eq62, eq63, eq64, eq65]; exact c359), (by simp only [eq59, eq60, eq61, eq62, eq63, eq64, eq65]; exact c360), (by simp only [eq59, eq60, eq61, eq62, eq63, eq64, eq65]; exact c361), (by simp only [eq59, eq60, eq61, eq62, eq63, eq64, eq65]; exact c362), fun t k => ?_⟩
      try rw [eq59] at k
      try rw [eq60] at k
      try rw [eq61] at k
      try rw [eq62] at k
      try rw [eq63] at k
      try rw [eq64] at k
      try rw [eq65] at k
      refine pre57 t ?_
      refine XS.ifYes X363.here hx rfl (pc0 := 391) (pc' := 401) rfl (hb hby at_391) rfl ((if0 _ _).trans (teq hc391).1) (by decide) (by decide) ?_
      exact k
    · obtain ⟨cq364, kq364, q364a, q364b, q364c⟩ := isOf hZ e363 c347
      obtain ⟨_, _, ⟨T364, L364, k364, n364⟩, -, X364, ⟨Lc364, hQ364, l364, y364, z364⟩, st364⟩ := X363.virtualBack hx (y := (⟨"com/example/podflow/podflow/simulation/Ballot", "count", "(Lcom/example/podflow/podflow/simulation/Pickup;)V"⟩ : MethodName)) (z := (⟨"com/example/podflow/podflow/simulation/Ballot", "count", "(Lcom/example/podflow/podflow/simulation/Pickup;)V"⟩ : MethodName)) hown (mvT hZ (hw _ (List.mem_of_getElem? (i := 71) rfl))) (mvT hZ (hw _ (List.mem_of_getElem? (i := 72) rfl))) (notFace_of_selects (args := #[]) (mvT hZ (hw _ (List.mem_of_getElem? (i := 74) rfl)))) (mvT hZ (hw _ (List.mem_of_getElem? (i := 74) rfl))) (mvT hZ (hw _ (List.mem_of_getElem? (i := 73) rfl))) (by decide) (backOf (W := 0) (rm8 l Z a0 hw [] b153 b112 (f2_o0 (f0_v217 p4) (0 : Int64) (f0_v229 p4) (f0_v241 p4) (0 : Int32) (0 : Int64) (0 : Int32) (0 : Int32)) (f2_o2 (f0_v217 p4) (0 : Int64) (f0_v229 p4) (f0_v241 p4) (0 : Int32) (0 : Int64) (0 : Int32) (0 : Int32)) (f2_o3 (f0_v217 p4) (0 : Int64) (f0_v229 p4) (f0_v241 p4) (0 : Int32) (0 : Int64) (0 : Int32) (0 : Int32)) b6 b18 r183_0 r183_1 r183_2 r183_3 r183_4 r183_5 (f0_F_unsettled_b153_389 p1 p2 p3 p5) (3 : Int32) (f0_v42 p1) (3 : Int32) (f0_v86 p1) (f5_x0n (0 : Int32) (3 : Int32) (f0_v42 p1) (3 : Int32) (f0_v86 p1) (3 : Int32) (f0_v142 p1)) (f0_A_r183_0_389 p1 p2 p3 p5) (f5_x1n (0 : Int32) (3 : Int32) (f0_v42 p1) (3 : Int32) (f0_v86 p1) (3 : Int32) (f0_v142 p1)) (f0_A_r183_1_389 p1 p2 p3 p5) (f5_x2n (0 : Int32) (3 : Int32) (f0_v42 p1) (3 : Int32) (f0_v86 p1) (3 : Int32) (f0_v142 p1)) (f0_A_r183_2_389 p1 p2 p3 p5) (f5_x3n (0 : Int32) (3 : Int32) (f0_v42 p1) (3 : Int32) (f0_v86 p1) (3 : Int32) (f0_v142 p1)) (f0_A_r183_3_389 p1 p2 p3 p5) (f5_x4n (0 : Int32) (3 : Int32) (f0_v42 p1) (3 : Int32) (f0_v86 p1) (3 : Int32) (f0_v142 p1)) (f0_A_r183_4_389 p1 p2 p3 p5) (f5_x5n (0 : Int32) (3 : Int32) (f0_v42 p1) (3 : Int32) (f0_v86 p1) (3 : Int32) (f0_v142 p1)) (f0_A_r183_5_389 p1 p2 p3 p5) h326 n0 c327 c347 g_b153 c342 c343 c345 c346 c348 c349 c350 c351 c352 c353 c354 c355 c356 c328 c329 c357 c358 c359 c360 c361 c362 g_r183_0 g_r183_1 g_r183_2 g_r183_3 g_r183_4 g_r183_5 ne_b153_r183_0 ne_b153_r183_1 ne_b153_r183_2 ne_b153_r183_3 ne_b153_r183_4 ne_b153_r183_5 ne_r183_0_r183_1 ne_r183_0_r183_2 ne_r183_0_r183_3 ne_r183_0_r183_4 ne_r183_0_r183_5 ne_r183_1_r183_2 ne_r183_1_r183_3 ne_r183_1_r183_4 ne_r183_1_r183_5 ne_r183_2_r183_3 ne_r183_2_r183_4 ne_r183_2_r183_5 ne_r183_3_r183_4 ne_r183_3_r183_5 ne_r183_4_r183_5 ne_b6_b153 ne_b6_r183_0 ne_b6_r183_1 ne_b6_r183_2 ne_b6_r183_3 ne_b6_r183_4 ne_b6_r183_5 ne_b18_b153 ne_b18_r183_0 ne_b18_r183_1 ne_b18_r183_2 ne_b18_r183_3 ne_b18_r183_4 ne_b18_r183_5 ne_b112_b153 ne_b112_r183_0 ne_b112_r183_1 ne_b112_r183_2 ne_b112_r183_3 ne_b112_r183_4 ne_b112_r183_5 (own_v217 p4) (own_v229 p4) (own_ia p1) ⟨rfl, rfl, rfl, rfl, rfl, rfl, rfl, rfl⟩) hZ (hw _ (List.mem_of_getElem? (i := 75) rfl)) (hw _ (List.mem_of_getElem? (i := 30) rfl)) (by decide) (by decide)) q364a q364c (g := (mkF m 398 #[.val (.int p1), .val (.int p2), .val (.int p3), .val (.int p4), .val (.int p5), .val (.int ((p1 &&& (3 : Int32)) - (1 : Int32))), .val (.int (f0_v14 p1)), .val (.int (f0_v23 p1)), .val (.ref b6), .val (.ref b18), .val (.ref b37), .val (.int (f0_v151 p2)), .val (.int (f0_v163 p2)), .val (.int (f0_v175 p2)), .val (.int (f0_v184 p3)), .val (.int (f0_v196 p3)), .val (.int (f0_v208 p3)), .val (.int (f0_v217 p4)), .val (.int (f0_v229 p4)), .val (.int (f0_v241 p4)), .val (.int (f0_v251 p5)), .val (.int (f0_v261 p5)), .val (.int (f0_s0_274 p5)), .val (.int (f0_s0_287 p5)), .val (.int (f0_s0_300 p5)), .val (.ref b60), .val (.ref b81), .val (.ref b112), .val (.ref b153), .unset, .unset, .unset, .unset, .unset] [(.ref b112), (.ref b153)])) rfl (by rw [hml]; rfl) (Steps.refl _) (argsL := [(.ref b112)]) (rest := []) (lenOf pd_7 rfl) rfl (by show 2 * 0 + _ ≤ _; exact Nat.le_of_eq rfl) (hb hby at_398) (fun _ _ => ⟨rfl, e363, (by decide : 13 + 0 ≤ _), (by decide : 48 + 0 ≤ _)⟩)
      dsimp only [Pt.U, Pt.locs, Pt.cells, Pt.slots] at X364 l364 y364 z364 st364 hQ364
      subst l364 y364 z364
      obtain ⟨rfl, N364q, K364, o364_0, o364_1, o364_2, o364_3, o364_4, o364_5, o364_6, o364_7, o364_8, o364_9, o364_10, o364_11, o364_12, o364_13, o364_14⟩ := hQ364
      have N364 := Fr.app N363 N364q
      have c365 : n0 ≤ T364.heap.size := Nat.le_trans c327 K364.1
      have c366 : IAr Z T364.heap b6 .int (3 : Int32) (f0_v42 p1) := c328.keep K364 (ninS ne_b6_b153 (ninS ne_b6_r183_0 (ninS ne_b6_r183_1 (ninS ne_b6_r183_2 (ninS ne_b6_r183_3 (ninS ne_b6_r183_4 (ninS ne_b6_r183_5 nin0)))))))
      have c367 : IAr Z T364.heap b18 .int (3 : Int32) (f0_v86 p1) := c329.keep K364 (ninS ne_b18_b153 (ninS ne_b18_r183_0 (ninS ne_b18_r183_1 (ninS ne_b18_r183_2 (ninS ne_b18_r183_3 (ninS ne_b18_r183_4 (ninS ne_b18_r183_5 nin0)))))))
      have c368 : Exa Z T364.heap b37 "[Z" := c330.keep K364
      have c369 : IAr Z T364.heap b37 .boolean (3 : Int32) (f0_v142 p1) := c331.keep K364 (ninS ne_b37_b153 (ninS ne_b37_r183_0 (ninS ne_b37_r183_1 (ninS ne_b37_r183_2 (ninS ne_b37_r183_3 (ninS ne_b37_r183_4 (ninS ne_b37_r183_5 nin0)))))))
      have c370 : Exa Z T364.heap b60 "com/example/podflow/podflow/simulation/Pickup" := c332.keep K364
      have c371 : Fld Z T364.heap b60 "com/example/podflow/podflow/simulation/Pickup" "vehicle" "I" (.int (f2_o0 (f0_v151 p2) (0 : Int64) (f0_v163 p2) (f0_v175 p2) (0 : Int32) (0 : Int64) (0 : Int32) (0 : Int32))) := c333.keep K364 (ninS ne_b60_b153 (ninS ne_b60_r183_0 (ninS ne_b60_r183_1 (ninS ne_b60_r183_2 (ninS ne_b60_r183_3 (ninS ne_b60_r183_4 (ninS ne_b60_r183_5 nin0)))))))
      have c372 : Fld Z T364.heap b60 "com/example/podflow/podflow/simulation/Pickup" "time" "J" (.long (f2_o1 (f0_v151 p2) (0 : Int64) (f0_v163 p2) (f0_v175 p2) (0 : Int32) (0 : Int64) (0 : Int32) (0 : Int32))) := c334.keep K364 (ninS ne_b60_b153 (ninS ne_b60_r183_0 (ninS ne_b60_r183_1 (ninS ne_b60_r183_2 (ninS ne_b60_r183_3 (ninS ne_b60_r183_4 (ninS ne_b60_r183_5 nin0)))))))
      have c373 : Fld Z T364.heap b60 "com/example/podflow/podflow/simulation/Pickup" "emptyFrom" "I" (.int (f2_o2 (f0_v151 p2) (0 : Int64) (f0_v163 p2) (f0_v175 p2) (0 : Int32) (0 : Int64) (0 : Int32) (0 : Int32))) := c335.keep K364 (ninS ne_b60_b153 (ninS ne_b60_r183_0 (ninS ne_b60_r183_1 (ninS ne_b60_r183_2 (ninS ne_b60_r183_3 (ninS ne_b60_r183_4 (ninS ne_b60_r183_5 nin0)))))))
      have c374 : Fld Z T364.heap b60 "com/example/podflow/podflow/simulation/Pickup" "emptyTo" "I" (.int (f2_o3 (f0_v151 p2) (0 : Int64) (f0_v163 p2) (f0_v175 p2) (0 : Int32) (0 : Int64) (0 : Int32) (0 : Int32))) := c336.keep K364 (ninS ne_b60_b153 (ninS ne_b60_r183_0 (ninS ne_b60_r183_1 (ninS ne_b60_r183_2 (ninS ne_b60_r183_3 (ninS ne_b60_r183_4 (ninS ne_b60_r183_5 nin0)))))))
      have c375 : Exa Z T364.heap b81 "com/example/podflow/podflow/simulation/Pickup" := c337.keep K364
      have c376 : Fld Z T364.heap b81 "com/example/podflow/podflow/simulation/Pickup" "vehicle" "I" (.int (f2_o0 (f0_v184 p3) (0 : Int64) (f0_v196 p3) (f0_v208 p3) (0 : Int32) (0 : Int64) (0 : Int32) (0 : Int32))) := c338.keep K364 (ninS ne_b81_b153 (ninS ne_b81_r183_0 (ninS ne_b81_r183_1 (ninS ne_b81_r183_2 (ninS ne_b81_r183_3 (ninS ne_b81_r183_4 (ninS ne_b81_r183_5 nin0)))))))
      have c377 : Fld Z T364.heap b81 "com/example/podflow/podflow/simulation/Pickup" "time" "J" (.long (f2_o1 (f0_v184 p3) (0 : Int64) (f0_v196 p3) (f0_v208 p3) (0 : Int32) (0 : Int64) (0 : Int32) (0 : Int32))) := c339.keep K364 (ninS ne_b81_b153 (ninS ne_b81_r183_0 (ninS ne_b81_r183_1 (ninS ne_b81_r183_2 (ninS ne_b81_r183_3 (ninS ne_b81_r183_4 (ninS ne_b81_r183_5 nin0)))))))
      have c378 : Fld Z T364.heap b81 "com/example/podflow/podflow/simulation/Pickup" "emptyFrom" "I" (.int (f2_o2 (f0_v184 p3) (0 : Int64) (f0_v196 p3) (f0_v208 p3) (0 : Int32) (0 : Int64) (0 : Int32) (0 : Int32))) := c340.keep K364 (ninS ne_b81_b153 (ninS ne_b81_r183_0 (ninS ne_b81_r183_1 (ninS ne_b81_r183_2 (ninS ne_b81_r183_3 (ninS ne_b81_r183_4 (ninS ne_b81_r183_5 nin0)))))))
      have c379 : Fld Z T364.heap b81 "com/example/podflow/podflow/simulation/Pickup" "emptyTo" "I" (.int (f2_o3 (f0_v184 p3) (0 : Int64) (f0_v196 p3) (f0_v208 p3) (0 : Int32) (0 : Int64) (0 : Int32) (0 : Int32))) := c341.keep K364 (ninS ne_b81_b153 (ninS ne_b81_r183_0 (ninS ne_b81_r183_1 (ninS ne_b81_r183_2 (ninS ne_b81_r183_3 (ninS ne_b81_r183_4 (ninS ne_b81_r183_5 nin0)))))))
      have c380 : Exa Z T364.heap b112 "com/example/podflow/podflow/simulation/Pickup" := c342.keep K364
      have c381 : Fld Z T364.heap b112 "com/example/podflow/podflow/simulation/Pickup" "vehicle" "I" (.int (f2_o0 (f0_v217 p4) (0 : Int64) (f0_v229 p4) (f0_v241 p4) (0 : Int32) (0 : Int64) (0 : Int32) (0 : Int32))) := c343.keep K364 (ninS ne_b112_b153 (ninS ne_b112_r183_0 (ninS ne_b112_r183_1 (ninS ne_b112_r183_2 (ninS ne_b112_r183_3 (ninS ne_b112_r183_4 (ninS ne_b112_r183_5 nin0)))))))
      have c382 : Fld Z T364.heap b112 "com/example/podflow/podflow/simulation/Pickup" "time" "J" (.long (f2_o1 (f0_v217 p4) (0 : Int64) (f0_v229 p4) (f0_v241 p4) (0 : Int32) (0 : Int64) (0 : Int32) (0 : Int32))) := c344.keep K364 (ninS ne_b112_b153 (ninS ne_b112_r183_0 (ninS ne_b112_r183_1 (ninS ne_b112_r183_2 (ninS ne_b112_r183_3 (ninS ne_b112_r183_4 (ninS ne_b112_r183_5 nin0)))))))
      have c383 : Fld Z T364.heap b112 "com/example/podflow/podflow/simulation/Pickup" "emptyFrom" "I" (.int (f2_o2 (f0_v217 p4) (0 : Int64) (f0_v229 p4) (f0_v241 p4) (0 : Int32) (0 : Int64) (0 : Int32) (0 : Int32))) := c345.keep K364 (ninS ne_b112_b153 (ninS ne_b112_r183_0 (ninS ne_b112_r183_1 (ninS ne_b112_r183_2 (ninS ne_b112_r183_3 (ninS ne_b112_r183_4 (ninS ne_b112_r183_5 nin0)))))))
      have c384 : Fld Z T364.heap b112 "com/example/podflow/podflow/simulation/Pickup" "emptyTo" "I" (.int (f2_o3 (f0_v217 p4) (0 : Int64) (f0_v229 p4) (f0_v241 p4) (0 : Int32) (0 : Int64) (0 : Int32) (0 : Int32))) := c346.keep K364 (ninS ne_b112_b153 (ninS ne_b112_r183_0 (ninS ne_b112_r183_1 (ninS ne_b112_r183_2 (ninS ne_b112_r183_3 (ninS ne_b112_r183_4 (ninS ne_b112_r183_5 nin0)))))))
      have c385 : Exa Z T364.heap b153 "com/example/podflow/podflow/simulation/Ballot" := c347.keep K364
      have c386 : Fld Z T364.heap b153 "com/example/podflow/podflow/simulation/Ballot" "idleAt" "[I" (.ref b6) := o364_0
      have c387 : Fld Z T364.heap b153 "com/example/podflow/podflow/simulation/Ballot" "idleCount" "[I" (.ref b18) := o364_1
      have c388 : Fld Z T364.heap b153 "com/example/podflow/podflow/simulation/Ballot" "open" "[Z" (.ref r183_0) := o364_2
      have c389 : Fld Z T364.heap b153 "com/example/podflow/podflow/simulation/Ballot" "served" "[I" (.ref r183_1) := o364_3
      have c390 : Fld Z T364.heap b153 "com/example/podflow/podflow/simulation/Ballot" "servedHome" "[I" (.ref r183_2) := o364_4
      have c391 : Fld Z T364.heap b153 "com/example/podflow/podflow/simulation/Ballot" "ownLeaving" "[I" (.ref r183_3) := o364_5
      have c392 : Fld Z T364.heap b153 "com/example/podflow/podflow/simulation/Ballot" "anyLeaving" "[I" (.ref r183_4) := o364_6
      have c393 : Fld Z T364.heap b153 "com/example/podflow/podflow/simulation/Ballot" "counted" "[Z" (.ref r183_5) := o364_7
      have c394 : Fld Z T364.heap b153 "com/example/podflow/podflow/simulation/Ballot" "unsettled" "I" (.int (f8_o8 (f2_o0 (f0_v217 p4) (0 : Int64) (f0_v229 p4) (f0_v241 p4) (0 : Int32) (0 : Int64) (0 : Int32) (0 : Int32)) (f2_o2 (f0_v217 p4) (0 : Int64) (f0_v229 p4) (f0_v241 p4) (0 : Int32) (0 : Int64) (0 : Int32) (0 : Int32)) (f2_o3 (f0_v217 p4) (0 : Int64) (f0_v229 p4) (f0_v241 p4) (0 : Int32) (0 : Int64) (0 : Int32) (0 : Int32)) (f0_F_unsettled_b153_389 p1 p2 p3 p5) (3 : Int32) (f0_v42 p1) (3 : Int32) (f0_v86 p1) (f5_x0n (0 : Int32) (3 : Int32) (f0_v42 p1) (3 : Int32) (f0_v86 p1) (3 : Int32) (f0_v142 p1)) (f0_A_r183_0_389 p1 p2 p3 p5) (f5_x1n (0 : Int32) (3 : Int32) (f0_v42 p1) (3 : Int32) (f0_v86 p1) (3 : Int32) (f0_v142 p1)) (f0_A_r183_1_389 p1 p2 p3 p5) (f5_x2n (0 : Int32) (3 : Int32) (f0_v42 p1) (3 : Int32) (f0_v86 p1) (3 : Int32) (f0_v142 p1)) (f0_A_r183_2_389 p1 p2 p3 p5) (f5_x3n (0 : Int32) (3 : Int32) (f0_v42 p1) (3 : Int32) (f0_v86 p1) (3 : Int32) (f0_v142 p1)) (f0_A_r183_3_389 p1 p2 p3 p5) (f5_x4n (0 : Int32) (3 : Int32) (f0_v42 p1) (3 : Int32) (f0_v86 p1) (3 : Int32) (f0_v142 p1)) (f0_A_r183_4_389 p1 p2 p3 p5) (f5_x5n (0 : Int32) (3 : Int32) (f0_v42 p1) (3 : Int32) (f0_v86 p1) (3 : Int32) (f0_v142 p1)) (f0_A_r183_5_389 p1 p2 p3 p5))) := o364_8
      have c395 : IAr Z T364.heap r183_0 .boolean (f5_x0n (0 : Int32) (3 : Int32) (f0_v42 p1) (3 : Int32) (f0_v86 p1) (3 : Int32) (f0_v142 p1)) (f8_o9 (f2_o0 (f0_v217 p4) (0 : Int64) (f0_v229 p4) (f0_v241 p4) (0 : Int32) (0 : Int64) (0 : Int32) (0 : Int32)) (f2_o2 (f0_v217 p4) (0 : Int64) (f0_v229 p4) (f0_v241 p4) (0 : Int32) (0 : Int64) (0 : Int32) (0 : Int32)) (f2_o3 (f0_v217 p4) (0 : Int64) (f0_v229 p4) (f0_v241 p4) (0 : Int32) (0 : Int64) (0 : Int32) (0 : Int32)) (f0_F_unsettled_b153_389 p1 p2 p3 p5) (3 : Int32) (f0_v42 p1) (3 : Int32) (f0_v86 p1) (f5_x0n (0 : Int32) (3 : Int32) (f0_v42 p1) (3 : Int32) (f0_v86 p1) (3 : Int32) (f0_v142 p1)) (f0_A_r183_0_389 p1 p2 p3 p5) (f5_x1n (0 : Int32) (3 : Int32) (f0_v42 p1) (3 : Int32) (f0_v86 p1) (3 : Int32) (f0_v142 p1)) (f0_A_r183_1_389 p1 p2 p3 p5) (f5_x2n (0 : Int32) (3 : Int32) (f0_v42 p1) (3 : Int32) (f0_v86 p1) (3 : Int32) (f0_v142 p1)) (f0_A_r183_2_389 p1 p2 p3 p5) (f5_x3n (0 : Int32) (3 : Int32) (f0_v42 p1) (3 : Int32) (f0_v86 p1) (3 : Int32) (f0_v142 p1)) (f0_A_r183_3_389 p1 p2 p3 p5) (f5_x4n (0 : Int32) (3 : Int32) (f0_v42 p1) (3 : Int32) (f0_v86 p1) (3 : Int32) (f0_v142 p1)) (f0_A_r183_4_389 p1 p2 p3 p5) (f5_x5n (0 : Int32) (3 : Int32) (f0_v42 p1) (3 : Int32) (f0_v86 p1) (3 : Int32) (f0_v142 p1)) (f0_A_r183_5_389 p1 p2 p3 p5)) := o364_9
      have c396 : IAr Z T364.heap r183_1 .int (f5_x1n (0 : Int32) (3 : Int32) (f0_v42 p1) (3 : Int32) (f0_v86 p1) (3 : Int32) (f0_v142 p1)) (f8_o10 (f2_o0 (f0_v217 p4) (0 : Int64) (f0_v229 p4) (f0_v241 p4) (0 : Int32) (0 : Int64) (0 : Int32) (0 : Int32)) (f2_o2 (f0_v217 p4) (0 : Int64) (f0_v229 p4) (f0_v241 p4) (0 : Int32) (0 : Int64) (0 : Int32) (0 : Int32)) (f2_o3 (f0_v217 p4) (0 : Int64) (f0_v229 p4) (f0_v241 p4) (0 : Int32) (0 : Int64) (0 : Int32) (0 : Int32)) (f0_F_unsettled_b153_389 p1 p2 p3 p5) (3 : Int32) (f0_v42 p1) (3 : Int32) (f0_v86 p1) (f5_x0n (0 : Int32) (3 : Int32) (f0_v42 p1) (3 : Int32) (f0_v86 p1) (3 : Int32) (f0_v142 p1)) (f0_A_r183_0_389 p1 p2 p3 p5) (f5_x1n (0 : Int32) (3 : Int32) (f0_v42 p1) (3 : Int32) (f0_v86 p1) (3 : Int32) (f0_v142 p1)) (f0_A_r183_1_389 p1 p2 p3 p5) (f5_x2n (0 : Int32) (3 : Int32) (f0_v42 p1) (3 : Int32) (f0_v86 p1) (3 : Int32) (f0_v142 p1)) (f0_A_r183_2_389 p1 p2 p3 p5) (f5_x3n (0 : Int32) (3 : Int32) (f0_v42 p1) (3 : Int32) (f0_v86 p1) (3 : Int32) (f0_v142 p1)) (f0_A_r183_3_389 p1 p2 p3 p5) (f5_x4n (0 : Int32) (3 : Int32) (f0_v42 p1) (3 : Int32) (f0_v86 p1) (3 : Int32) (f0_v142 p1)) (f0_A_r183_4_389 p1 p2 p3 p5) (f5_x5n (0 : Int32) (3 : Int32) (f0_v42 p1) (3 : Int32) (f0_v86 p1) (3 : Int32) (f0_v142 p1)) (f0_A_r183_5_389 p1 p2 p3 p5)) := o364_10
      have c397 : IAr Z T364.heap r183_2 .int (f5_x2n (0 : Int32) (3 : Int32) (f0_v42 p1) (3 : Int32) (f0_v86 p1) (3 : Int32) (f0_v142 p1)) (f8_o11 (f2_o0 (f0_v217 p4) (0 : Int64) (f0_v229 p4) (f0_v241 p4) (0 : Int32) (0 : Int64) (0 : Int32) (0 : Int32)) (f2_o2 (f0_v217 p4) (0 : Int64) (f0_v229 p4) (f0_v241 p4) (0 : Int32) (0 : Int64) (0 : Int32) (0 : Int32)) (f2_o3 (f0_v217 p4) (0 : Int64) (f0_v229 p4) (f0_v241 p4) (0 : Int32) (0 : Int64) (0 : Int32) (0 : Int32)) (f0_F_unsettled_b153_389 p1 p2 p3 p5) (3 : Int32) (f0_v42 p1) (3 : Int32) (f0_v86 p1) (f5_x0n (0 : Int32) (3 : Int32) (f0_v42 p1) (3 : Int32) (f0_v86 p1) (3 : Int32) (f0_v142 p1)) (f0_A_r183_0_389 p1 p2 p3 p5) (f5_x1n (0 : Int32) (3 : Int32) (f0_v42 p1) (3 : Int32) (f0_v86 p1) (3 : Int32) (f0_v142 p1)) (f0_A_r183_1_389 p1 p2 p3 p5) (f5_x2n (0 : Int32) (3 : Int32) (f0_v42 p1) (3 : Int32) (f0_v86 p1) (3 : Int32) (f0_v142 p1)) (f0_A_r183_2_389 p1 p2 p3 p5) (f5_x3n (0 : Int32) (3 : Int32) (f0_v42 p1) (3 : Int32) (f0_v86 p1) (3 : Int32) (f0_v142 p1)) (f0_A_r183_3_389 p1 p2 p3 p5) (f5_x4n (0 : Int32) (3 : Int32) (f0_v42 p1) (3 : Int32) (f0_v86 p1) (3 : Int32) (f0_v142 p1)) (f0_A_r183_4_389 p1 p2 p3 p5) (f5_x5n (0 : Int32) (3 : Int32) (f0_v42 p1) (3 : Int32) (f0_v86 p1) (3 : Int32) (f0_v142 p1)) (f0_A_r183_5_389 p1 p2 p3 p5)) := o364_11
      have c398 : IAr Z T364.heap r183_3 .int (f5_x3n (0 : Int32) (3 : Int32) (f0_v42 p1) (3 : Int32) (f0_v86 p1) (3 : Int32) (f0_v142 p1)) (f8_o12 (f2_o0 (f0_v217 p4) (0 : Int64) (f0_v229 p4) (f0_v241 p4) (0 : Int32) (0 : Int64) (0 : Int32) (0 : Int32)) (f2_o2 (f0_v217 p4) (0 : Int64) (f0_v229 p4) (f0_v241 p4) (0 : Int32) (0 : Int64) (0 : Int32) (0 : Int32)) (f2_o3 (f0_v217 p4) (0 : Int64) (f0_v229 p4) (f0_v241 p4) (0 : Int32) (0 : Int64) (0 : Int32) (0 : Int32)) (f0_F_unsettled_b153_389 p1 p2 p3 p5) (3 : Int32) (f0_v42 p1) (3 : Int32) (f0_v86 p1) (f5_x0n (0 : Int32) (3 : Int32) (f0_v42 p1) (3 : Int32) (f0_v86 p1) (3 : Int32) (f0_v142 p1)) (f0_A_r183_0_389 p1 p2 p3 p5) (f5_x1n (0 : Int32) (3 : Int32) (f0_v42 p1) (3 : Int32) (f0_v86 p1) (3 : Int32) (f0_v142 p1)) (f0_A_r183_1_389 p1 p2 p3 p5) (f5_x2n (0 : Int32) (3 : Int32) (f0_v42 p1) (3 : Int32) (f0_v86 p1) (3 : Int32) (f0_v142 p1)) (f0_A_r183_2_389 p1 p2 p3 p5) (f5_x3n (0 : Int32) (3 : Int32) (f0_v42 p1) (3 : Int32) (f0_v86 p1) (3 : Int32) (f0_v142 p1)) (f0_A_r183_3_389 p1 p2 p3 p5) (f5_x4n (0 : Int32) (3 : Int32) (f0_v42 p1) (3 : Int32) (f0_v86 p1) (3 : Int32) (f0_v142 p1)) (f0_A_r183_4_389 p1 p2 p3 p5) (f5_x5n (0 : Int32) (3 : Int32) (f0_v42 p1) (3 : Int32) (f0_v86 p1) (3 : Int32) (f0_v142 p1)) (f0_A_r183_5_389 p1 p2 p3 p5)) := o364_12
      have c399 : IAr Z T364.heap r183_4 .int (f5_x4n (0 : Int32) (3 : Int32) (f0_v42 p1) (3 : Int32) (f0_v86 p1) (3 : Int32) (f0_v142 p1)) (f8_o13 (f2_o0 (f0_v217 p4) (0 : Int64) (f0_v229 p4) (f0_v241 p4) (0 : Int32) (0 : Int64) (0 : Int32) (0 : Int32)) (f2_o2 (f0_v217 p4) (0 : Int64) (f0_v229 p4) (f0_v241 p4) (0 : Int32) (0 : Int64) (0 : Int32) (0 : Int32)) (f2_o3 (f0_v217 p4) (0 : Int64) (f0_v229 p4) (f0_v241 p4) (0 : Int32) (0 : Int64) (0 : Int32) (0 : Int32)) (f0_F_unsettled_b153_389 p1 p2 p3 p5) (3 : Int32) (f0_v42 p1) (3 : Int32) (f0_v86 p1) (f5_x0n (0 : Int32) (3 : Int32) (f0_v42 p1) (3 : Int32) (f0_v86 p1) (3 : Int32) (f0_v142 p1)) (f0_A_r183_0_389 p1 p2 p3 p5) (f5_x1n (0 : Int32) (3 : Int32) (f0_v42 p1) (3 : Int32) (f0_v86 p1) (3 : Int32) (f0_v142 p1)) (f0_A_r183_1_389 p1 p2 p3 p5) (f5_x2n (0 : Int32) (3 : Int32) (f0_v42 p1) (3 : Int32) (f0_v86 p1) (3 : Int32) (f0_v142 p1)) (f0_A_r183_2_389 p1 p2 p3 p5) (f5_x3n (0 : Int32) (3 : Int32) (f0_v42 p1) (3 : Int32) (f0_v86 p1) (3 : Int32) (f0_v142 p1)) (f0_A_r183_3_389 p1 p2 p3 p5) (f5_x4n (0 : Int32) (3 : Int32) (f0_v42 p1) (3 : Int32) (f0_v86 p1) (3 : Int32) (f0_v142 p1)) (f0_A_r183_4_389 p1 p2 p3 p5) (f5_x5n (0 : Int32) (3 : Int32) (f0_v42 p1) (3 : Int32) (f0_v86 p1) (3 : Int32) (f0_v142 p1)) (f0_A_r183_5_389 p1 p2 p3 p5)) := o364_13
      have c400 : IAr Z T364.heap r183_5 .boolean (f5_x5n (0 : Int32) (3 : Int32) (f0_v42 p1) (3 : Int32) (f0_v86 p1) (3 : Int32) (f0_v142 p1)) (f8_o14 (f2_o0 (f0_v217 p4) (0 : Int64) (f0_v229 p4) (f0_v241 p4) (0 : Int32) (0 : Int64) (0 : Int32) (0 : Int32)) (f2_o2 (f0_v217 p4) (0 : Int64) (f0_v229 p4) (f0_v241 p4) (0 : Int32) (0 : Int64) (0 : Int32) (0 : Int32)) (f2_o3 (f0_v217 p4) (0 : Int64) (f0_v229 p4) (f0_v241 p4) (0 : Int32) (0 : Int64) (0 : Int32) (0 : Int32)) (f0_F_unsettled_b153_389 p1 p2 p3 p5) (3 : Int32) (f0_v42 p1) (3 : Int32) (f0_v86 p1) (f5_x0n (0 : Int32) (3 : Int32) (f0_v42 p1) (3 : Int32) (f0_v86 p1) (3 : Int32) (f0_v142 p1)) (f0_A_r183_0_389 p1 p2 p3 p5) (f5_x1n (0 : Int32) (3 : Int32) (f0_v42 p1) (3 : Int32) (f0_v86 p1) (3 : Int32) (f0_v142 p1)) (f0_A_r183_1_389 p1 p2 p3 p5) (f5_x2n (0 : Int32) (3 : Int32) (f0_v42 p1) (3 : Int32) (f0_v86 p1) (3 : Int32) (f0_v142 p1)) (f0_A_r183_2_389 p1 p2 p3 p5) (f5_x3n (0 : Int32) (3 : Int32) (f0_v42 p1) (3 : Int32) (f0_v86 p1) (3 : Int32) (f0_v142 p1)) (f0_A_r183_3_389 p1 p2 p3 p5) (f5_x4n (0 : Int32) (3 : Int32) (f0_v42 p1) (3 : Int32) (f0_v86 p1) (3 : Int32) (f0_v142 p1)) (f0_A_r183_4_389 p1 p2 p3 p5) (f5_x5n (0 : Int32) (3 : Int32) (f0_v42 p1) (3 : Int32) (f0_v86 p1) (3 : Int32) (f0_v142 p1)) (f0_A_r183_5_389 p1 p2 p3 p5)) := o364_14
      have eq66 := (show (f0_F_unsettled_b153_401 p1 p2 p3 p4 p5) = (f8_o8 (f2_o0 (f0_v217 p4) (0 : Int64) (f0_v229 p4) (f0_v241 p4) (0 : Int32) (0 : Int64) (0 : Int32) (0 : Int32)) (f2_o2 (f0_v217 p4) (0 : Int64) (f0_v229 p4) (f0_v241 p4) (0 : Int32) (0 : Int64) (0 : Int32) (0 : Int32)) (f2_o3 (f0_v217 p4) (0 : Int64) (f0_v229 p4) (f0_v241 p4) (0 : Int32) (0 : Int64) (0 : Int32) (0 : Int32)) (f0_F_unsettled_b153_389 p1 p2 p3 p5) (3 : Int32) (f0_v42 p1) (3 : Int32) (f0_v86 p1) (f5_x0n (0 : Int32) (3 : Int32) (f0_v42 p1) (3 : Int32) (f0_v86 p1) (3 : Int32) (f0_v142 p1)) (f0_A_r183_0_389 p1 p2 p3 p5) (f5_x1n (0 : Int32) (3 : Int32) (f0_v42 p1) (3 : Int32) (f0_v86 p1) (3 : Int32) (f0_v142 p1)) (f0_A_r183_1_389 p1 p2 p3 p5) (f5_x2n (0 : Int32) (3 : Int32) (f0_v42 p1) (3 : Int32) (f0_v86 p1) (3 : Int32) (f0_v142 p1)) (f0_A_r183_2_389 p1 p2 p3 p5) (f5_x3n (0 : Int32) (3 : Int32) (f0_v42 p1) (3 : Int32) (f0_v86 p1) (3 : Int32) (f0_v142 p1)) (f0_A_r183_3_389 p1 p2 p3 p5) (f5_x4n (0 : Int32) (3 : Int32) (f0_v42 p1) (3 : Int32) (f0_v86 p1) (3 : Int32) (f0_v142 p1)) (f0_A_r183_4_389 p1 p2 p3 p5) (f5_x5n (0 : Int32) (3 : Int32) (f0_v42 p1) (3 : Int32) (f0_v86 p1) (3 : Int32) (f0_v142 p1)) (f0_A_r183_5_389 p1 p2 p3 p5)) from by unfold f0_F_unsettled_b153_401; simp only [if_neg hc391])
      have eq67 := (show (f0_A_r183_0_401 p1 p2 p3 p4 p5) = (f8_o9 (f2_o0 (f0_v217 p4) (0 : Int64) (f0_v229 p4) (f0_v241 p4) (0 : Int32) (0 : Int64) (0 : Int32) (0 : Int32)) (f2_o2 (f0_v217 p4) (0 : Int64) (f0_v229 p4) (f0_v241 p4) (0 : Int32) (0 : Int64) (0 : Int32) (0 : Int32)) (f2_o3 (f0_v217 p4) (0 : Int64) (f0_v229 p4) (f0_v241 p4) (0 : Int32) (0 : Int64) (0 : Int32) (0 : Int32)) (f0_F_unsettled_b153_389 p1 p2 p3 p5) (3 : Int32) (f0_v42 p1) (3 : Int32) (f0_v86 p1) (f5_x0n (0 : Int32) (3 : Int32) (f0_v42 p1) (3 : Int32) (f0_v86 p1) (3 : Int32) (f0_v142 p1)) (f0_A_r183_0_389 p1 p2 p3 p5) (f5_x1n (0 : Int32) (3 : Int32) (f0_v42 p1) (3 : Int32) (f0_v86 p1) (3 : Int32) (f0_v142 p1)) (f0_A_r183_1_389 p1 p2 p3 p5) (f5_x2n (0 : Int32) (3 : Int32) (f0_v42 p1) (3 : Int32) (f0_v86 p1) (3 : Int32) (f0_v142 p1)) (f0_A_r183_2_389 p1 p2 p3 p5) (f5_x3n (0 : Int32) (3 : Int32) (f0_v42 p1) (3 : Int32) (f0_v86 p1) (3 : Int32) (f0_v142 p1)) (f0_A_r183_3_389 p1 p2 p3 p5) (f5_x4n (0 : Int32) (3 : Int32) (f0_v42 p1) (3 : Int32) (f0_v86 p1) (3 : Int32) (f0_v142 p1)) (f0_A_r183_4_389 p1 p2 p3 p5) (f5_x5n (0 : Int32) (3 : Int32) (f0_v42 p1) (3 : Int32) (f0_v86 p1) (3 : Int32) (f0_v142 p1)) (f0_A_r183_5_389 p1 p2 p3 p5)) from by unfold f0_A_r183_0_401; simp only [if_neg hc391])
      have eq68 := (show (f0_A_r183_1_401 p1 p2 p3 p4 p5) = (f8_o10 (f2_o0 (f0_v217 p4) (0 : Int64) (f0_v229 p4) (f0_v241 p4) (0 : Int32) (0 : Int64) (0 : Int32) (0 : Int32)) (f2_o2 (f0_v217 p4) (0 : Int64) (f0_v229 p4) (f0_v241 p4) (0 : Int32) (0 : Int64) (0 : Int32) (0 : Int32)) (f2_o3 (f0_v217 p4) (0 : Int64) (f0_v229 p4) (f0_v241 p4) (0 : Int32) (0 : Int64) (0 : Int32) (0 : Int32)) (f0_F_unsettled_b153_389 p1 p2 p3 p5) (3 : Int32) (f0_v42 p1) (3 : Int32) (f0_v86 p1) (f5_x0n (0 : Int32) (3 : Int32) (f0_v42 p1) (3 : Int32) (f0_v86 p1) (3 : Int32) (f0_v142 p1)) (f0_A_r183_0_389 p1 p2 p3 p5) (f5_x1n (0 : Int32) (3 : Int32) (f0_v42 p1) (3 : Int32) (f0_v86 p1) (3 : Int32) (f0_v142 p1)) (f0_A_r183_1_389 p1 p2 p3 p5) (f5_x2n (0 : Int32) (3 : Int32) (f0_v42 p1) (3 : Int32) (f0_v86 p1) (3 : Int32) (f0_v142 p1)) (f0_A_r183_2_389 p1 p2 p3 p5) (f5_x3n (0 : Int32) (3 : Int32) (f0_v42 p1) (3 : Int32) (f0_v86 p1) (3 : Int32) (f0_v142 p1)) (f0_A_r183_3_389 p1 p2 p3 p5) (f5_x4n (0 : Int32) (3 : Int32) (f0_v42 p1) (3 : Int32) (f0_v86 p1) (3 : Int32) (f0_v142 p1)) (f0_A_r183_4_389 p1 p2 p3 p5) (f5_x5n (0 : Int32) (3 : Int32) (f0_v42 p1) (3 : Int32) (f0_v86 p1) (3 : Int32) (f0_v142 p1)) (f0_A_r183_5_389 p1 p2 p3 p5)) from by unfold f0_A_r183_1_401; simp only [if_neg hc391])
      have eq69 := (show (f0_A_r183_2_401 p1 p2 p3 p4 p5) = (f8_o11 (f2_o0 (f0_v217 p4) (0 : Int64) (f0_v229 p4) (f0_v241 p4) (0 : Int32) (0 : Int64) (0 : Int32) (0 : Int32)) (f2_o2 (f0_v217 p4) (0 : Int64) (f0_v229 p4) (f0_v241 p4) (0 : Int32) (0 : Int64) (0 : Int32) (0 : Int32)) (f2_o3 (f0_v217 p4) (0 : Int64) (f0_v229 p4) (f0_v241 p4) (0 : Int32) (0 : Int64) (0 : Int32) (0 : Int32)) (f0_F_unsettled_b153_389 p1 p2 p3 p5) (3 : Int32) (f0_v42 p1) (3 : Int32) (f0_v86 p1) (f5_x0n (0 : Int32) (3 : Int32) (f0_v42 p1) (3 : Int32) (f0_v86 p1) (3 : Int32) (f0_v142 p1)) (f0_A_r183_0_389 p1 p2 p3 p5) (f5_x1n (0 : Int32) (3 : Int32) (f0_v42 p1) (3 : Int32) (f0_v86 p1) (3 : Int32) (f0_v142 p1)) (f0_A_r183_1_389 p1 p2 p3 p5) (f5_x2n (0 : Int32) (3 : Int32) (f0_v42 p1) (3 : Int32) (f0_v86 p1) (3 : Int32) (f0_v142 p1)) (f0_A_r183_2_389 p1 p2 p3 p5) (f5_x3n (0 : Int32) (3 : Int32) (f0_v42 p1) (3 : Int32) (f0_v86 p1) (3 : Int32) (f0_v142 p1)) (f0_A_r183_3_389 p1 p2 p3 p5) (f5_x4n (0 : Int32) (3 : Int32) (f0_v42 p1) (3 : Int32) (f0_v86 p1) (3 : Int32) (f0_v142 p1)) (f0_A_r183_4_389 p1 p2 p3 p5) (f5_x5n (0 : Int32) (3 : Int32) (f0_v42 p1) (3 : Int32) (f0_v86 p1) (3 : Int32) (f0_v142 p1)) (f0_A_r183_5_389 p1 p2 p3 p5)) from by unfold f0_A_r183_2_401; simp only [if_neg hc391])
      have eq70 := (show (f0_A_r183_3_401 p1 p2 p3 p4 p5) = (f8_o12 (f2_o0 (f0_v217 p4) (0 : Int64) (f0_v229 p4) (f0_v241 p4) (0 : Int32) (0 : Int64) (0 : Int32) (0 : Int32)) (f2_o2 (f0_v217 p4) (0 : Int64) (f0_v229 p4) (f0_v241 p4) (0 : Int32) (0 : Int64) (0 : Int32) (0 : Int32)) (f2_o3 (f0_v217 p4) (0 : Int64) (f0_v229 p4) (f0_v241 p4) (0 : Int32) (0 : Int64) (0 : Int32) (0 : Int32)) (f0_F_unsettled_b153_389 p1 p2 p3 p5) (3 : Int32) (f0_v42 p1) (3 : Int32) (f0_v86 p1) (f5_x0n (0 : Int32) (3 : Int32) (f0_v42 p1) (3 : Int32) (f0_v86 p1) (3 : Int32) (f0_v142 p1)) (f0_A_r183_0_389 p1 p2 p3 p5) (f5_x1n (0 : Int32) (3 : Int32) (f0_v42 p1) (3 : Int32) (f0_v86 p1) (3 : Int32) (f0_v142 p1)) (f0_A_r183_1_389 p1 p2 p3 p5) (f5_x2n (0 : Int32) (3 : Int32) (f0_v42 p1) (3 : Int32) (f0_v86 p1) (3 : Int32) (f0_v142 p1)) (f0_A_r183_2_389 p1 p2 p3 p5) (f5_x3n (0 : Int32) (3 : Int32) (f0_v42 p1) (3 : Int32) (f0_v86 p1) (3 : Int32) (f0_v142 p1)) (f0_A_r183_3_389 p1 p2 p3 p5) (f5_x4n (0 : Int32) (3 : Int32) (f0_v42 p1) (3 : Int32) (f0_v86 p1) (3 : Int32) (f0_v142 p1)) (f0_A_r183_4_389 p1 p2 p3 p5) (f5_x5n (0 : Int32) (3 : Int32) (f0_v42 p1) (3 : Int32) (f0_v86 p1) (3 : Int32) (f0_v142 p1)) (f0_A_r183_5_389 p1 p2 p3 p5)) from by unfold f0_A_r183_3_401; simp only [if_neg hc391])
      have eq71 := (show (f0_A_r183_4_401 p1 p2 p3 p4 p5) = (f8_o13 (f2_o0 (f0_v217 p4) (0 : Int64) (f0_v229 p4) (f0_v241 p4) (0 : Int32) (0 : Int64) (0 : Int32) (0 : Int32)) (f2_o2 (f0_v217 p4) (0 : Int64) (f0_v229 p4) (f0_v241 p4) (0 : Int32) (0 : Int64) (0 : Int32) (0 : Int32)) (f2_o3 (f0_v217 p4) (0 : Int64) (f0_v229 p4) (f0_v241 p4) (0 : Int32) (0 : Int64) (0 : Int32) (0 : Int32)) (f0_F_unsettled_b153_389 p1 p2 p3 p5) (3 : Int32) (f0_v42 p1) (3 : Int32) (f0_v86 p1) (f5_x0n (0 : Int32) (3 : Int32) (f0_v42 p1) (3 : Int32) (f0_v86 p1) (3 : Int32) (f0_v142 p1)) (f0_A_r183_0_389 p1 p2 p3 p5) (f5_x1n (0 : Int32) (3 : Int32) (f0_v42 p1) (3 : Int32) (f0_v86 p1) (3 : Int32) (f0_v142 p1)) (f0_A_r183_1_389 p1 p2 p3 p5) (f5_x2n (0 : Int32) (3 : Int32) (f0_v42 p1) (3 : Int32) (f0_v86 p1) (3 : Int32) (f0_v142 p1)) (f0_A_r183_2_389 p1 p2 p3 p5) (f5_x3n (0 : Int32) (3 : Int32) (f0_v42 p1) (3 : Int32) (f0_v86 p1) (3 : Int32) (f0_v142 p1)) (f0_A_r183_3_389 p1 p2 p3 p5) (f5_x4n (0 : Int32) (3 : Int32) (f0_v42 p1) (3 : Int32) (f0_v86 p1) (3 : Int32) (f0_v142 p1)) (f0_A_r183_4_389 p1 p2 p3 p5) (f5_x5n (0 : Int32) (3 : Int32) (f0_v42 p1) (3 : Int32) (f0_v86 p1) (3 : Int32) (f0_v142 p1)) (f0_A_r183_5_389 p1 p2 p3 p5)) from by unfold f0_A_r183_4_401; simp only [if_neg hc391])
      have eq72 := (show (f0_A_r183_5_401 p1 p2 p3 p4 p5) = (f8_o14 (f2_o0 (f0_v217 p4) (0 : Int64) (f0_v229 p4) (f0_v241 p4) (0 : Int32) (0 : Int64) (0 : Int32) (0 : Int32)) (f2_o2 (f0_v217 p4) (0 : Int64) (f0_v229 p4) (f0_v241 p4) (0 : Int32) (0 : Int64) (0 : Int32) (0 : Int32)) (f2_o3 (f0_v217 p4) (0 : Int64) (f0_v229 p4) (f0_v241 p4) (0 : Int32) (0 : Int64) (0 : Int32) (0 : Int32)) (f0_F_unsettled_b153_389 p1 p2 p3 p5) (3 : Int32) (f0_v42 p1) (3 : Int32) (f0_v86 p1) (f5_x0n (0 : Int32) (3 : Int32) (f0_v42 p1) (3 : Int32) (f0_v86 p1) (3 : Int32) (f0_v142 p1)) (f0_A_r183_0_389 p1 p2 p3 p5) (f5_x1n (0 : Int32) (3 : Int32) (f0_v42 p1) (3 : Int32) (f0_v86 p1) (3 : Int32) (f0_v142 p1)) (f0_A_r183_1_389 p1 p2 p3 p5) (f5_x2n (0 : Int32) (3 : Int32) (f0_v42 p1) (3 : Int32) (f0_v86 p1) (3 : Int32) (f0_v142 p1)) (f0_A_r183_2_389 p1 p2 p3 p5) (f5_x3n (0 : Int32) (3 : Int32) (f0_v42 p1) (3 : Int32) (f0_v86 p1) (3 : Int32) (f0_v142 p1)) (f0_A_r183_3_389 p1 p2 p3 p5) (f5_x4n (0 : Int32) (3 : Int32) (f0_v42 p1) (3 : Int32) (f0_v86 p1) (3 : Int32) (f0_v142 p1)) (f0_A_r183_4_389 p1 p2 p3 p5) (f5_x5n (0 : Int32) (3 : Int32) (f0_v42 p1) (3 : Int32) (f0_v86 p1) (3 : Int32) (f0_v142 p1)) (f0_A_r183_5_389 p1 p2 p3 p5)) from by unfold f0_A_r183_5_401; simp only [if_neg hc391])
      refine ⟨T364, _, T364.heap, X364, rfl, N364, c365, c366, c367, c368, c369, c370, c371, c372, c373, c374, c375, c376, c377, c378, c379, c380, c381, c382, c383, c384, c385, c386, c387, c388, c389, c390, c391, c392, c393, (by simp only [eq66, eq67, eq68, eq69, eq70, eq71, eq72]; exact c394), (by simp only [eq66, eq67, eq68, eq69, eq70, eq71, eq72]; exact c395), (by simp only [eq66, eq67, eq68, eq69, eq70, eq71, eq72]; exact c396), (by simp only [eq66, eq67, eq68, eq69, eq70, eq71, eq72]; exact c397), (by simp only [eq66, eq67, eq68, eq69, eq70, eq71, eq72]; exact c398), (by simp only [eq66, eq67, eq68, eq69, eq70, eq71, eq72]; exact c399), (by simp only [eq66, eq67, eq68, eq69, eq70, eq71, eq72]; exact c400), fun t k => ?_⟩
      try rw [eq66] at k
      try rw [eq67] at k
      try rw [eq68] at k
      try rw [eq69] at k
      try rw [eq70] at k
      try rw [eq71] at k
      try rw [eq72] at k
      refine pre57 t ?_
      refine XS.ifNo X363.here hx rfl (hb hby at_391) rfl ((if0 _ _).trans (feq hc391).1) ?_
      show Steps p.tables e below (T363.setTop (mkF m 394 #[.val (.int p1), .val (.int p2), .val (.int p3), .val (.int p4), .val (.int p5), .val (.int ((p1 &&& (3 : Int32)) - (1 : Int32))), .val (.int (f0_v14 p1)), .val (.int (f0_v23 p1)), .val (.ref b6), .val (.ref b18), .val (.ref b37), .val (.int (f0_v151 p2)), .val (.int (f0_v163 p2)), .val (.int (f0_v175 p2)), .val (.int (f0_v184 p3)), .val (.int (f0_v196 p3)), .val (.int (f0_v208 p3)), .val (.int (f0_v217 p4)), .val (.int (f0_v229 p4)), .val (.int (f0_v241 p4)), .val (.int (f0_v251 p5)), .val (.int (f0_v261 p5)), .val (.int (f0_s0_274 p5)), .val (.int (f0_s0_287 p5)), .val (.int (f0_s0_300 p5)), .val (.ref b60), .val (.ref b81), .val (.ref b112), .val (.ref b153), .unset, .unset, .unset, .unset, .unset] [])) _
      refine XS.aload X363.here hx rfl (hb hby at_394) rfl rfl ?_
      refine XS.aload X363.here hx rfl (hb hby at_396) rfl rfl ?_
      show Steps p.tables e below (T363.setTop (mkF m 398 #[.val (.int p1), .val (.int p2), .val (.int p3), .val (.int p4), .val (.int p5), .val (.int ((p1 &&& (3 : Int32)) - (1 : Int32))), .val (.int (f0_v14 p1)), .val (.int (f0_v23 p1)), .val (.ref b6), .val (.ref b18), .val (.ref b37), .val (.int (f0_v151 p2)), .val (.int (f0_v163 p2)), .val (.int (f0_v175 p2)), .val (.int (f0_v184 p3)), .val (.int (f0_v196 p3)), .val (.int (f0_v208 p3)), .val (.int (f0_v217 p4)), .val (.int (f0_v229 p4)), .val (.int (f0_v241 p4)), .val (.int (f0_v251 p5)), .val (.int (f0_v261 p5)), .val (.int (f0_s0_274 p5)), .val (.int (f0_s0_287 p5)), .val (.int (f0_s0_300 p5)), .val (.ref b60), .val (.ref b81), .val (.ref b112), .val (.ref b153), .unset, .unset, .unset, .unset, .unset] [(.ref b112), (.ref b153)])) _
      refine st364.trans ?_
      exact k
  obtain ⟨cq439, kq439, q439a, q439b, q439c⟩ := isOf hZ e438 c422
  obtain ⟨_, _, ⟨T439, L439, k439, n439⟩, -, X439, ⟨Lc439, hQ439, l439, y439, z439⟩, st439⟩ := X438.virtualBack hx (y := (⟨"com/example/podflow/podflow/simulation/Ballot", "vote", "(I)I"⟩ : MethodName)) (z := (⟨"com/example/podflow/podflow/simulation/Ballot", "vote", "(I)I"⟩ : MethodName)) hown (mvT hZ (hw _ (List.mem_of_getElem? (i := 66) rfl))) (mvT hZ (hw _ (List.mem_of_getElem? (i := 67) rfl))) (notFace_of_selects (args := #[]) (mvT hZ (hw _ (List.mem_of_getElem? (i := 69) rfl)))) (mvT hZ (hw _ (List.mem_of_getElem? (i := 69) rfl))) (mvT hZ (hw _ (List.mem_of_getElem? (i := 68) rfl))) (by decide) (backOf (W := 0) (rm7 l Z a0 hw [] b153 (f0_v251 p5) r183_2 b18 r183_3 r183_4 (f5_x2n (0 : Int32) (3 : Int32) (f0_v42 p1) (3 : Int32) (f0_v86 p1) (3 : Int32) (f0_v142 p1)) (f0_A_r183_2_401 p1 p2 p3 p4 p5) (3 : Int32) (f0_v86 p1) (f5_x3n (0 : Int32) (3 : Int32) (f0_v42 p1) (3 : Int32) (f0_v86 p1) (3 : Int32) (f0_v142 p1)) (f0_A_r183_3_401 p1 p2 p3 p4 p5) (f5_x4n (0 : Int32) (3 : Int32) (f0_v42 p1) (3 : Int32) (f0_v86 p1) (3 : Int32) (f0_v142 p1)) (f0_A_r183_4_401 p1 p2 p3 p4 p5) h401 n0 c402 c427 c424 c428 c429 c434 c404 c435 c436 (own_v251 p5) ⟨rfl, rfl, rfl, rfl⟩) hZ (hw _ (List.mem_of_getElem? (i := 70) rfl)) (hw _ (List.mem_of_getElem? (i := 30) rfl)) (by decide) (by decide)) q439a q439c (g := (mkF m 405 #[.val (.int p1), .val (.int p2), .val (.int p3), .val (.int p4), .val (.int p5), .val (.int ((p1 &&& (3 : Int32)) - (1 : Int32))), .val (.int (f0_v14 p1)), .val (.int (f0_v23 p1)), .val (.ref b6), .val (.ref b18), .val (.ref b37), .val (.int (f0_v151 p2)), .val (.int (f0_v163 p2)), .val (.int (f0_v175 p2)), .val (.int (f0_v184 p3)), .val (.int (f0_v196 p3)), .val (.int (f0_v208 p3)), .val (.int (f0_v217 p4)), .val (.int (f0_v229 p4)), .val (.int (f0_v241 p4)), .val (.int (f0_v251 p5)), .val (.int (f0_v261 p5)), .val (.int (f0_s0_274 p5)), .val (.int (f0_s0_287 p5)), .val (.int (f0_s0_300 p5)), .val (.ref b60), .val (.ref b81), .val (.ref b112), .val (.ref b153), .unset, .unset, .unset, .unset, .unset] [(.int (f0_v251 p5)), (.ref b153)])) rfl (by rw [hml]; rfl) (Steps.refl _) (argsL := [(.int (f0_v251 p5))]) (rest := []) (lenOf pd_8 rfl) rfl (by show 2 * 0 + _ ≤ _; exact Nat.le_of_eq rfl) (hb hby at_405) (fun _ _ => ⟨rfl, e438, (by decide : 13 + 0 ≤ _), (by decide : 48 + 0 ≤ _)⟩)
  dsimp only [Pt.U, Pt.locs, Pt.cells, Pt.slots] at X439 l439 y439 z439 st439 hQ439
  subst l439 y439 z439
  obtain ⟨rfl, N439q, e439⟩ := hQ439
  have N439 := Fr.app N438 N439q
  have pre73 : ∀ t, Steps p.tables e below (T439.setTop (mkF m 414 #[.val (.int p1), .val (.int p2), .val (.int p3), .val (.int p4), .val (.int p5), .val (.int ((p1 &&& (3 : Int32)) - (1 : Int32))), .val (.int (f0_v14 p1)), .val (.int (f0_v23 p1)), .val (.ref b6), .val (.ref b18), .val (.ref b37), .val (.int (f0_v151 p2)), .val (.int (f0_v163 p2)), .val (.int (f0_v175 p2)), .val (.int (f0_v184 p3)), .val (.int (f0_v196 p3)), .val (.int (f0_v208 p3)), .val (.int (f0_v217 p4)), .val (.int (f0_v229 p4)), .val (.int (f0_v241 p4)), .val (.int (f0_v251 p5)), .val (.int (f0_v261 p5)), .val (.int (f0_s0_274 p5)), .val (.int (f0_s0_287 p5)), .val (.int (f0_s0_300 p5)), .val (.ref b60), .val (.ref b81), .val (.ref b112), .val (.ref b153), .val (.int (f0_v408 p1 p2 p3 p4 p5)), .unset, .unset, .unset, .unset] [(.int (f0_v251 p5)), (.int ((p1 &&& (3 : Int32)) - (1 : Int32)))])) t → Steps p.tables e below (s₁.setTop (entryFrame m #[(.int p1), (.int p2), (.int p3), (.int p4), (.int p5)] maxLocals)) t := by
    intro t k
    refine pre58 t ?_
    refine XS.aload X438.here hx rfl (hb hby at_401) rfl rfl ?_
    refine XS.iload X438.here hx rfl (hb hby at_403) rfl ?_
    show Steps p.tables e below (T438.setTop (mkF m 405 #[.val (.int p1), .val (.int p2), .val (.int p3), .val (.int p4), .val (.int p5), .val (.int ((p1 &&& (3 : Int32)) - (1 : Int32))), .val (.int (f0_v14 p1)), .val (.int (f0_v23 p1)), .val (.ref b6), .val (.ref b18), .val (.ref b37), .val (.int (f0_v151 p2)), .val (.int (f0_v163 p2)), .val (.int (f0_v175 p2)), .val (.int (f0_v184 p3)), .val (.int (f0_v196 p3)), .val (.int (f0_v208 p3)), .val (.int (f0_v217 p4)), .val (.int (f0_v229 p4)), .val (.int (f0_v241 p4)), .val (.int (f0_v251 p5)), .val (.int (f0_v261 p5)), .val (.int (f0_s0_274 p5)), .val (.int (f0_s0_287 p5)), .val (.int (f0_s0_300 p5)), .val (.ref b60), .val (.ref b81), .val (.ref b112), .val (.ref b153), .unset, .unset, .unset, .unset, .unset] [(.int (f0_v251 p5)), (.ref b153)])) _
    refine st439.trans ?_
    show Steps p.tables e below (T439.setTop (mkF m 408 #[.val (.int p1), .val (.int p2), .val (.int p3), .val (.int p4), .val (.int p5), .val (.int ((p1 &&& (3 : Int32)) - (1 : Int32))), .val (.int (f0_v14 p1)), .val (.int (f0_v23 p1)), .val (.ref b6), .val (.ref b18), .val (.ref b37), .val (.int (f0_v151 p2)), .val (.int (f0_v163 p2)), .val (.int (f0_v175 p2)), .val (.int (f0_v184 p3)), .val (.int (f0_v196 p3)), .val (.int (f0_v208 p3)), .val (.int (f0_v217 p4)), .val (.int (f0_v229 p4)), .val (.int (f0_v241 p4)), .val (.int (f0_v251 p5)), .val (.int (f0_v261 p5)), .val (.int (f0_s0_274 p5)), .val (.int (f0_s0_287 p5)), .val (.int (f0_s0_300 p5)), .val (.ref b60), .val (.ref b81), .val (.ref b112), .val (.ref b153), .unset, .unset, .unset, .unset, .unset] [(.int (f7 (f0_v251 p5) (f5_x2n (0 : Int32) (3 : Int32) (f0_v42 p1) (3 : Int32) (f0_v86 p1) (3 : Int32) (f0_v142 p1)) (f0_A_r183_2_401 p1 p2 p3 p4 p5) (3 : Int32) (f0_v86 p1) (f5_x3n (0 : Int32) (3 : Int32) (f0_v42 p1) (3 : Int32) (f0_v86 p1) (3 : Int32) (f0_v142 p1)) (f0_A_r183_3_401 p1 p2 p3 p4 p5) (f5_x4n (0 : Int32) (3 : Int32) (f0_v42 p1) (3 : Int32) (f0_v86 p1) (3 : Int32) (f0_v142 p1)) (f0_A_r183_4_401 p1 p2 p3 p4 p5)))])) _
    refine XS.istore X439.here hx rfl (hb hby at_408) rfl (l' := #[.val (.int p1), .val (.int p2), .val (.int p3), .val (.int p4), .val (.int p5), .val (.int ((p1 &&& (3 : Int32)) - (1 : Int32))), .val (.int (f0_v14 p1)), .val (.int (f0_v23 p1)), .val (.ref b6), .val (.ref b18), .val (.ref b37), .val (.int (f0_v151 p2)), .val (.int (f0_v163 p2)), .val (.int (f0_v175 p2)), .val (.int (f0_v184 p3)), .val (.int (f0_v196 p3)), .val (.int (f0_v208 p3)), .val (.int (f0_v217 p4)), .val (.int (f0_v229 p4)), .val (.int (f0_v241 p4)), .val (.int (f0_v251 p5)), .val (.int (f0_v261 p5)), .val (.int (f0_s0_274 p5)), .val (.int (f0_s0_287 p5)), .val (.int (f0_s0_300 p5)), .val (.ref b60), .val (.ref b81), .val (.ref b112), .val (.ref b153), .val (.int (f0_v408 p1 p2 p3 p4 p5)), .unset, .unset, .unset, .unset]) rfl ?_
    refine XS.iload X439.here hx rfl (hb hby at_410) rfl ?_
    refine XS.iload X439.here hx rfl (hb hby at_412) rfl ?_
    exact k
  obtain ⟨T447, Lmpre74, X447, e447, N447, pre74⟩ : ∃ (T' : State) (L' : List Loc), Stand p l e room_1 s m #[(.int p1), (.int p2), (.int p3), (.int p4), (.int p5)] below meth c T' L' 13 48 ∧ T'.heap = h401 ∧ Fr n0 L' ∧ ∀ t, Steps p.tables e below (T'.setTop (mkF m 517 #[.val (.int p1), .val (.int p2), .val (.int p3), .val (.int p4), .val (.int p5), .val (.int ((p1 &&& (3 : Int32)) - (1 : Int32))), .val (.int (f0_v14 p1)), .val (.int (f0_v23 p1)), .val (.ref b6), .val (.ref b18), .val (.ref b37), .val (.int (f0_v151 p2)), .val (.int (f0_v163 p2)), .val (.int (f0_v175 p2)), .val (.int (f0_v184 p3)), .val (.int (f0_v196 p3)), .val (.int (f0_v208 p3)), .val (.int (f0_v217 p4)), .val (.int (f0_v229 p4)), .val (.int (f0_v241 p4)), .val (.int (f0_v251 p5)), .val (.int (f0_v261 p5)), .val (.int (f0_s0_274 p5)), .val (.int (f0_s0_287 p5)), .val (.int (f0_s0_300 p5)), .val (.ref b60), .val (.ref b81), .val (.ref b112), .val (.ref b153), .val (.int (f0_v408 p1 p2 p3 p4 p5)), .unset, .unset, .unset, .unset] [(.int (f0_s0_517 p1 p2 p3 p4 p5))])) t → Steps p.tables e below (s₁.setTop (entryFrame m #[(.int p1), (.int p2), (.int p3), (.int p4), (.int p5)] maxLocals)) t := by
    by_cases hc414 : ((p1 &&& (3 : Int32)) - (1 : Int32)) = (f0_v251 p5)
    · obtain ⟨_, _, ⟨T440, L440, k440, n440⟩, -, X440, ⟨Lc440, hQ440, l440, y440, z440⟩, st440⟩ := Jvm.LawKit.callS X439 hx (y := (⟨"com/example/podflow/podflow/simulation/BallotVotePinLaw", "firstTo", "(IZIIZIIZII)I"⟩ : MethodName)) hown (mvT hZ (hw _ (List.mem_of_getElem? (i := 95) rfl))) (mvT hZ (hw _ (List.mem_of_getElem? (i := 96) rfl))) (mvT hZ (hw _ (List.mem_of_getElem? (i := 3) rfl))) (mvT hZ (hw _ (List.mem_of_getElem? (i := 97) rfl))) (by decide) (backOf (W := 0) (rm13 l Z a0 hw [] (0 : Int32) (f0_s0_274 p5) (f0_v151 p2) (f0_v175 p2) (f0_s0_287 p5) (f0_v184 p3) (f0_v208 p3) (f0_s0_300 p5) (f0_v217 p4) (f0_v241 p4) h401 n0 c402 ) hZ (hw _ (List.mem_of_getElem? (i := 97) rfl)) (hw _ (List.mem_of_getElem? (i := 3) rfl)) (by decide) (by decide)) (g := (mkF m 436 #[.val (.int p1), .val (.int p2), .val (.int p3), .val (.int p4), .val (.int p5), .val (.int ((p1 &&& (3 : Int32)) - (1 : Int32))), .val (.int (f0_v14 p1)), .val (.int (f0_v23 p1)), .val (.ref b6), .val (.ref b18), .val (.ref b37), .val (.int (f0_v151 p2)), .val (.int (f0_v163 p2)), .val (.int (f0_v175 p2)), .val (.int (f0_v184 p3)), .val (.int (f0_v196 p3)), .val (.int (f0_v208 p3)), .val (.int (f0_v217 p4)), .val (.int (f0_v229 p4)), .val (.int (f0_v241 p4)), .val (.int (f0_v251 p5)), .val (.int (f0_v261 p5)), .val (.int (f0_s0_274 p5)), .val (.int (f0_s0_287 p5)), .val (.int (f0_s0_300 p5)), .val (.ref b60), .val (.ref b81), .val (.ref b112), .val (.ref b153), .val (.int (f0_v408 p1 p2 p3 p4 p5)), .unset, .unset, .unset, .unset] [(.int (f0_v241 p4)), (.int (f0_v217 p4)), (.int (f0_s0_300 p5)), (.int (f0_v208 p3)), (.int (f0_v184 p3)), (.int (f0_s0_287 p5)), (.int (f0_v175 p2)), (.int (f0_v151 p2)), (.int (f0_s0_274 p5)), (.int (0 : Int32))])) rfl (by rw [hml]; rfl) (argsL := [(.int (0 : Int32)), (.int (f0_s0_274 p5)), (.int (f0_v151 p2)), (.int (f0_v175 p2)), (.int (f0_s0_287 p5)), (.int (f0_v184 p3)), (.int (f0_v208 p3)), (.int (f0_s0_300 p5)), (.int (f0_v217 p4)), (.int (f0_v241 p4))]) (rest := []) (lenOf pd_9 rfl) rfl (by show 2 * 0 + _ ≤ _; exact Nat.le_of_eq rfl) (hb hby at_436) (fun _ _ => ⟨rfl, e439, (by decide : 13 + 0 ≤ _), (by decide : 48 + 0 ≤ _)⟩)
      dsimp only [Pt.U, Pt.locs, Pt.cells, Pt.slots] at X440 l440 y440 z440 st440 hQ440
      subst l440 y440 z440
      obtain ⟨rfl, N440q, e440⟩ := hQ440
      have N440 := Fr.app N439 N440q
      have pre75 : ∀ t, Steps p.tables e below (T440.setTop (mkF m 441 #[.val (.int p1), .val (.int p2), .val (.int p3), .val (.int p4), .val (.int p5), .val (.int ((p1 &&& (3 : Int32)) - (1 : Int32))), .val (.int (f0_v14 p1)), .val (.int (f0_v23 p1)), .val (.ref b6), .val (.ref b18), .val (.ref b37), .val (.int (f0_v151 p2)), .val (.int (f0_v163 p2)), .val (.int (f0_v175 p2)), .val (.int (f0_v184 p3)), .val (.int (f0_v196 p3)), .val (.int (f0_v208 p3)), .val (.int (f0_v217 p4)), .val (.int (f0_v229 p4)), .val (.int (f0_v241 p4)), .val (.int (f0_v251 p5)), .val (.int (f0_v261 p5)), .val (.int (f0_s0_274 p5)), .val (.int (f0_s0_287 p5)), .val (.int (f0_s0_300 p5)), .val (.ref b60), .val (.ref b81), .val (.ref b112), .val (.ref b153), .val (.int (f0_v408 p1 p2 p3 p4 p5)), .unset, .unset, .unset, .unset] [(.int (f0_v251 p5)), (.int (f13 (0 : Int32) (f0_s0_274 p5) (f0_v151 p2) (f0_v175 p2) (f0_s0_287 p5) (f0_v184 p3) (f0_v208 p3) (f0_s0_300 p5) (f0_v217 p4) (f0_v241 p4)))])) t → Steps p.tables e below (s₁.setTop (entryFrame m #[(.int p1), (.int p2), (.int p3), (.int p4), (.int p5)] maxLocals)) t := by
        intro t k
        refine pre73 t ?_
        refine XS.icmpNo X439.here hx rfl (hb hby at_414) rfl (teq hc414).2 ?_
        show Steps p.tables e below (T439.setTop (mkF m 417 #[.val (.int p1), .val (.int p2), .val (.int p3), .val (.int p4), .val (.int p5), .val (.int ((p1 &&& (3 : Int32)) - (1 : Int32))), .val (.int (f0_v14 p1)), .val (.int (f0_v23 p1)), .val (.ref b6), .val (.ref b18), .val (.ref b37), .val (.int (f0_v151 p2)), .val (.int (f0_v163 p2)), .val (.int (f0_v175 p2)), .val (.int (f0_v184 p3)), .val (.int (f0_v196 p3)), .val (.int (f0_v208 p3)), .val (.int (f0_v217 p4)), .val (.int (f0_v229 p4)), .val (.int (f0_v241 p4)), .val (.int (f0_v251 p5)), .val (.int (f0_v261 p5)), .val (.int (f0_s0_274 p5)), .val (.int (f0_s0_287 p5)), .val (.int (f0_s0_300 p5)), .val (.ref b60), .val (.ref b81), .val (.ref b112), .val (.ref b153), .val (.int (f0_v408 p1 p2 p3 p4 p5)), .unset, .unset, .unset, .unset] [])) _
        refine XS.iconst X439.here hx rfl (hb hby at_417) ?_
        refine XS.iload X439.here hx rfl (hb hby at_418) rfl ?_
        refine XS.iload X439.here hx rfl (hb hby at_420) rfl ?_
        refine XS.iload X439.here hx rfl (hb hby at_422) rfl ?_
        show Steps p.tables e below (T439.setTop (mkF m 424 #[.val (.int p1), .val (.int p2), .val (.int p3), .val (.int p4), .val (.int p5), .val (.int ((p1 &&& (3 : Int32)) - (1 : Int32))), .val (.int (f0_v14 p1)), .val (.int (f0_v23 p1)), .val (.ref b6), .val (.ref b18), .val (.ref b37), .val (.int (f0_v151 p2)), .val (.int (f0_v163 p2)), .val (.int (f0_v175 p2)), .val (.int (f0_v184 p3)), .val (.int (f0_v196 p3)), .val (.int (f0_v208 p3)), .val (.int (f0_v217 p4)), .val (.int (f0_v229 p4)), .val (.int (f0_v241 p4)), .val (.int (f0_v251 p5)), .val (.int (f0_v261 p5)), .val (.int (f0_s0_274 p5)), .val (.int (f0_s0_287 p5)), .val (.int (f0_s0_300 p5)), .val (.ref b60), .val (.ref b81), .val (.ref b112), .val (.ref b153), .val (.int (f0_v408 p1 p2 p3 p4 p5)), .unset, .unset, .unset, .unset] [(.int (f0_v175 p2)), (.int (f0_v151 p2)), (.int (f0_s0_274 p5)), (.int (0 : Int32))])) _
        refine XS.iload X439.here hx rfl (hb hby at_424) rfl ?_
        refine XS.iload X439.here hx rfl (hb hby at_426) rfl ?_
        refine XS.iload X439.here hx rfl (hb hby at_428) rfl ?_
        refine XS.iload X439.here hx rfl (hb hby at_430) rfl ?_
        show Steps p.tables e below (T439.setTop (mkF m 432 #[.val (.int p1), .val (.int p2), .val (.int p3), .val (.int p4), .val (.int p5), .val (.int ((p1 &&& (3 : Int32)) - (1 : Int32))), .val (.int (f0_v14 p1)), .val (.int (f0_v23 p1)), .val (.ref b6), .val (.ref b18), .val (.ref b37), .val (.int (f0_v151 p2)), .val (.int (f0_v163 p2)), .val (.int (f0_v175 p2)), .val (.int (f0_v184 p3)), .val (.int (f0_v196 p3)), .val (.int (f0_v208 p3)), .val (.int (f0_v217 p4)), .val (.int (f0_v229 p4)), .val (.int (f0_v241 p4)), .val (.int (f0_v251 p5)), .val (.int (f0_v261 p5)), .val (.int (f0_s0_274 p5)), .val (.int (f0_s0_287 p5)), .val (.int (f0_s0_300 p5)), .val (.ref b60), .val (.ref b81), .val (.ref b112), .val (.ref b153), .val (.int (f0_v408 p1 p2 p3 p4 p5)), .unset, .unset, .unset, .unset] [(.int (f0_s0_300 p5)), (.int (f0_v208 p3)), (.int (f0_v184 p3)), (.int (f0_s0_287 p5)), (.int (f0_v175 p2)), (.int (f0_v151 p2)), (.int (f0_s0_274 p5)), (.int (0 : Int32))])) _
        refine XS.iload X439.here hx rfl (hb hby at_432) rfl ?_
        refine XS.iload X439.here hx rfl (hb hby at_434) rfl ?_
        show Steps p.tables e below (T439.setTop (mkF m 436 #[.val (.int p1), .val (.int p2), .val (.int p3), .val (.int p4), .val (.int p5), .val (.int ((p1 &&& (3 : Int32)) - (1 : Int32))), .val (.int (f0_v14 p1)), .val (.int (f0_v23 p1)), .val (.ref b6), .val (.ref b18), .val (.ref b37), .val (.int (f0_v151 p2)), .val (.int (f0_v163 p2)), .val (.int (f0_v175 p2)), .val (.int (f0_v184 p3)), .val (.int (f0_v196 p3)), .val (.int (f0_v208 p3)), .val (.int (f0_v217 p4)), .val (.int (f0_v229 p4)), .val (.int (f0_v241 p4)), .val (.int (f0_v251 p5)), .val (.int (f0_v261 p5)), .val (.int (f0_s0_274 p5)), .val (.int (f0_s0_287 p5)), .val (.int (f0_s0_300 p5)), .val (.ref b60), .val (.ref b81), .val (.ref b112), .val (.ref b153), .val (.int (f0_v408 p1 p2 p3 p4 p5)), .unset, .unset, .unset, .unset] [(.int (f0_v241 p4)), (.int (f0_v217 p4)), (.int (f0_s0_300 p5)), (.int (f0_v208 p3)), (.int (f0_v184 p3)), (.int (f0_s0_287 p5)), (.int (f0_v175 p2)), (.int (f0_v151 p2)), (.int (f0_s0_274 p5)), (.int (0 : Int32))])) _
        refine st440 _ ?_
        show Steps p.tables e below (T440.setTop (mkF m 439 #[.val (.int p1), .val (.int p2), .val (.int p3), .val (.int p4), .val (.int p5), .val (.int ((p1 &&& (3 : Int32)) - (1 : Int32))), .val (.int (f0_v14 p1)), .val (.int (f0_v23 p1)), .val (.ref b6), .val (.ref b18), .val (.ref b37), .val (.int (f0_v151 p2)), .val (.int (f0_v163 p2)), .val (.int (f0_v175 p2)), .val (.int (f0_v184 p3)), .val (.int (f0_v196 p3)), .val (.int (f0_v208 p3)), .val (.int (f0_v217 p4)), .val (.int (f0_v229 p4)), .val (.int (f0_v241 p4)), .val (.int (f0_v251 p5)), .val (.int (f0_v261 p5)), .val (.int (f0_s0_274 p5)), .val (.int (f0_s0_287 p5)), .val (.int (f0_s0_300 p5)), .val (.ref b60), .val (.ref b81), .val (.ref b112), .val (.ref b153), .val (.int (f0_v408 p1 p2 p3 p4 p5)), .unset, .unset, .unset, .unset] [(.int (f13 (0 : Int32) (f0_s0_274 p5) (f0_v151 p2) (f0_v175 p2) (f0_s0_287 p5) (f0_v184 p3) (f0_v208 p3) (f0_s0_300 p5) (f0_v217 p4) (f0_v241 p4)))])) _
        refine XS.iload X440.here hx rfl (hb hby at_439) rfl ?_
        exact k
      by_cases hc441 : (f13 (0 : Int32) (f0_s0_274 p5) (f0_v151 p2) (f0_v175 p2) (f0_s0_287 p5) (f0_v184 p3) (f0_v208 p3) (f0_s0_300 p5) (f0_v217 p4) (f0_v241 p4)) = (f0_v251 p5)
      · have pre76 : ∀ t, Steps p.tables e below (T440.setTop (mkF m 448 #[.val (.int p1), .val (.int p2), .val (.int p3), .val (.int p4), .val (.int p5), .val (.int ((p1 &&& (3 : Int32)) - (1 : Int32))), .val (.int (f0_v14 p1)), .val (.int (f0_v23 p1)), .val (.ref b6), .val (.ref b18), .val (.ref b37), .val (.int (f0_v151 p2)), .val (.int (f0_v163 p2)), .val (.int (f0_v175 p2)), .val (.int (f0_v184 p3)), .val (.int (f0_v196 p3)), .val (.int (f0_v208 p3)), .val (.int (f0_v217 p4)), .val (.int (f0_v229 p4)), .val (.int (f0_v241 p4)), .val (.int (f0_v251 p5)), .val (.int (f0_v261 p5)), .val (.int (f0_s0_274 p5)), .val (.int (f0_s0_287 p5)), .val (.int (f0_s0_300 p5)), .val (.ref b60), .val (.ref b81), .val (.ref b112), .val (.ref b153), .val (.int (f0_v408 p1 p2 p3 p4 p5)), .unset, .unset, .unset, .unset] [(.int (f0_v251 p5)), (.int (f0_v14 p1))])) t → Steps p.tables e below (s₁.setTop (entryFrame m #[(.int p1), (.int p2), (.int p3), (.int p4), (.int p5)] maxLocals)) t := by
          intro t k
          refine pre75 t ?_
          refine XS.icmpNo X440.here hx rfl (hb hby at_441) rfl (teq hc441).2 ?_
          refine XS.iload X440.here hx rfl (hb hby at_444) rfl ?_
          refine XS.iload X440.here hx rfl (hb hby at_446) rfl ?_
          exact k
        by_cases hc448 : (f0_v14 p1) = (f0_v251 p5)
        · obtain ⟨_, _, ⟨T441, L441, k441, n441⟩, -, X441, ⟨Lc441, hQ441, l441, y441, z441⟩, st441⟩ := Jvm.LawKit.callS X440 hx (y := (⟨"com/example/podflow/podflow/simulation/BallotVotePinLaw", "firstTo", "(IZIIZIIZII)I"⟩ : MethodName)) hown (mvT hZ (hw _ (List.mem_of_getElem? (i := 95) rfl))) (mvT hZ (hw _ (List.mem_of_getElem? (i := 96) rfl))) (mvT hZ (hw _ (List.mem_of_getElem? (i := 3) rfl))) (mvT hZ (hw _ (List.mem_of_getElem? (i := 97) rfl))) (by decide) (backOf (W := 0) (rm13 l Z a0 hw [] (1 : Int32) (f0_s0_274 p5) (f0_v151 p2) (f0_v175 p2) (f0_s0_287 p5) (f0_v184 p3) (f0_v208 p3) (f0_s0_300 p5) (f0_v217 p4) (f0_v241 p4) h401 n0 c402 ) hZ (hw _ (List.mem_of_getElem? (i := 97) rfl)) (hw _ (List.mem_of_getElem? (i := 3) rfl)) (by decide) (by decide)) (g := (mkF m 470 #[.val (.int p1), .val (.int p2), .val (.int p3), .val (.int p4), .val (.int p5), .val (.int ((p1 &&& (3 : Int32)) - (1 : Int32))), .val (.int (f0_v14 p1)), .val (.int (f0_v23 p1)), .val (.ref b6), .val (.ref b18), .val (.ref b37), .val (.int (f0_v151 p2)), .val (.int (f0_v163 p2)), .val (.int (f0_v175 p2)), .val (.int (f0_v184 p3)), .val (.int (f0_v196 p3)), .val (.int (f0_v208 p3)), .val (.int (f0_v217 p4)), .val (.int (f0_v229 p4)), .val (.int (f0_v241 p4)), .val (.int (f0_v251 p5)), .val (.int (f0_v261 p5)), .val (.int (f0_s0_274 p5)), .val (.int (f0_s0_287 p5)), .val (.int (f0_s0_300 p5)), .val (.ref b60), .val (.ref b81), .val (.ref b112), .val (.ref b153), .val (.int (f0_v408 p1 p2 p3 p4 p5)), .unset, .unset, .unset, .unset] [(.int (f0_v241 p4)), (.int (f0_v217 p4)), (.int (f0_s0_300 p5)), (.int (f0_v208 p3)), (.int (f0_v184 p3)), (.int (f0_s0_287 p5)), (.int (f0_v175 p2)), (.int (f0_v151 p2)), (.int (f0_s0_274 p5)), (.int (1 : Int32))])) rfl (by rw [hml]; rfl) (argsL := [(.int (1 : Int32)), (.int (f0_s0_274 p5)), (.int (f0_v151 p2)), (.int (f0_v175 p2)), (.int (f0_s0_287 p5)), (.int (f0_v184 p3)), (.int (f0_v208 p3)), (.int (f0_s0_300 p5)), (.int (f0_v217 p4)), (.int (f0_v241 p4))]) (rest := []) (lenOf pd_9 rfl) rfl (by show 2 * 0 + _ ≤ _; exact Nat.le_of_eq rfl) (hb hby at_470) (fun _ _ => ⟨rfl, e440, (by decide : 13 + 0 ≤ _), (by decide : 48 + 0 ≤ _)⟩)
          dsimp only [Pt.U, Pt.locs, Pt.cells, Pt.slots] at X441 l441 y441 z441 st441 hQ441
          subst l441 y441 z441
          obtain ⟨rfl, N441q, e441⟩ := hQ441
          have N441 := Fr.app N440 N441q
          have pre77 : ∀ t, Steps p.tables e below (T441.setTop (mkF m 475 #[.val (.int p1), .val (.int p2), .val (.int p3), .val (.int p4), .val (.int p5), .val (.int ((p1 &&& (3 : Int32)) - (1 : Int32))), .val (.int (f0_v14 p1)), .val (.int (f0_v23 p1)), .val (.ref b6), .val (.ref b18), .val (.ref b37), .val (.int (f0_v151 p2)), .val (.int (f0_v163 p2)), .val (.int (f0_v175 p2)), .val (.int (f0_v184 p3)), .val (.int (f0_v196 p3)), .val (.int (f0_v208 p3)), .val (.int (f0_v217 p4)), .val (.int (f0_v229 p4)), .val (.int (f0_v241 p4)), .val (.int (f0_v251 p5)), .val (.int (f0_v261 p5)), .val (.int (f0_s0_274 p5)), .val (.int (f0_s0_287 p5)), .val (.int (f0_s0_300 p5)), .val (.ref b60), .val (.ref b81), .val (.ref b112), .val (.ref b153), .val (.int (f0_v408 p1 p2 p3 p4 p5)), .unset, .unset, .unset, .unset] [(.int (f0_v251 p5)), (.int (f13 (1 : Int32) (f0_s0_274 p5) (f0_v151 p2) (f0_v175 p2) (f0_s0_287 p5) (f0_v184 p3) (f0_v208 p3) (f0_s0_300 p5) (f0_v217 p4) (f0_v241 p4)))])) t → Steps p.tables e below (s₁.setTop (entryFrame m #[(.int p1), (.int p2), (.int p3), (.int p4), (.int p5)] maxLocals)) t := by
            intro t k
            refine pre76 t ?_
            show Steps p.tables e below (T440.setTop (mkF m 448 #[.val (.int p1), .val (.int p2), .val (.int p3), .val (.int p4), .val (.int p5), .val (.int ((p1 &&& (3 : Int32)) - (1 : Int32))), .val (.int (f0_v14 p1)), .val (.int (f0_v23 p1)), .val (.ref b6), .val (.ref b18), .val (.ref b37), .val (.int (f0_v151 p2)), .val (.int (f0_v163 p2)), .val (.int (f0_v175 p2)), .val (.int (f0_v184 p3)), .val (.int (f0_v196 p3)), .val (.int (f0_v208 p3)), .val (.int (f0_v217 p4)), .val (.int (f0_v229 p4)), .val (.int (f0_v241 p4)), .val (.int (f0_v251 p5)), .val (.int (f0_v261 p5)), .val (.int (f0_s0_274 p5)), .val (.int (f0_s0_287 p5)), .val (.int (f0_s0_300 p5)), .val (.ref b60), .val (.ref b81), .val (.ref b112), .val (.ref b153), .val (.int (f0_v408 p1 p2 p3 p4 p5)), .unset, .unset, .unset, .unset] [(.int (f0_v251 p5)), (.int (f0_v14 p1))])) _
            refine XS.icmpNo X440.here hx rfl (hb hby at_448) rfl (teq hc448).2 ?_
            refine XS.iconst X440.here hx rfl (hb hby at_451) ?_
            refine XS.iload X440.here hx rfl (hb hby at_452) rfl ?_
            refine XS.iload X440.here hx rfl (hb hby at_454) rfl ?_
            show Steps p.tables e below (T440.setTop (mkF m 456 #[.val (.int p1), .val (.int p2), .val (.int p3), .val (.int p4), .val (.int p5), .val (.int ((p1 &&& (3 : Int32)) - (1 : Int32))), .val (.int (f0_v14 p1)), .val (.int (f0_v23 p1)), .val (.ref b6), .val (.ref b18), .val (.ref b37), .val (.int (f0_v151 p2)), .val (.int (f0_v163 p2)), .val (.int (f0_v175 p2)), .val (.int (f0_v184 p3)), .val (.int (f0_v196 p3)), .val (.int (f0_v208 p3)), .val (.int (f0_v217 p4)), .val (.int (f0_v229 p4)), .val (.int (f0_v241 p4)), .val (.int (f0_v251 p5)), .val (.int (f0_v261 p5)), .val (.int (f0_s0_274 p5)), .val (.int (f0_s0_287 p5)), .val (.int (f0_s0_300 p5)), .val (.ref b60), .val (.ref b81), .val (.ref b112), .val (.ref b153), .val (.int (f0_v408 p1 p2 p3 p4 p5)), .unset, .unset, .unset, .unset] [(.int (f0_v151 p2)), (.int (f0_s0_274 p5)), (.int (1 : Int32))])) _
            refine XS.iload X440.here hx rfl (hb hby at_456) rfl ?_
            refine XS.iload X440.here hx rfl (hb hby at_458) rfl ?_
            refine XS.iload X440.here hx rfl (hb hby at_460) rfl ?_
            refine XS.iload X440.here hx rfl (hb hby at_462) rfl ?_
            show Steps p.tables e below (T440.setTop (mkF m 464 #[.val (.int p1), .val (.int p2), .val (.int p3), .val (.int p4), .val (.int p5), .val (.int ((p1 &&& (3 : Int32)) - (1 : Int32))), .val (.int (f0_v14 p1)), .val (.int (f0_v23 p1)), .val (.ref b6), .val (.ref b18), .val (.ref b37), .val (.int (f0_v151 p2)), .val (.int (f0_v163 p2)), .val (.int (f0_v175 p2)), .val (.int (f0_v184 p3)), .val (.int (f0_v196 p3)), .val (.int (f0_v208 p3)), .val (.int (f0_v217 p4)), .val (.int (f0_v229 p4)), .val (.int (f0_v241 p4)), .val (.int (f0_v251 p5)), .val (.int (f0_v261 p5)), .val (.int (f0_s0_274 p5)), .val (.int (f0_s0_287 p5)), .val (.int (f0_s0_300 p5)), .val (.ref b60), .val (.ref b81), .val (.ref b112), .val (.ref b153), .val (.int (f0_v408 p1 p2 p3 p4 p5)), .unset, .unset, .unset, .unset] [(.int (f0_v208 p3)), (.int (f0_v184 p3)), (.int (f0_s0_287 p5)), (.int (f0_v175 p2)), (.int (f0_v151 p2)), (.int (f0_s0_274 p5)), (.int (1 : Int32))])) _
            refine XS.iload X440.here hx rfl (hb hby at_464) rfl ?_
            refine XS.iload X440.here hx rfl (hb hby at_466) rfl ?_
            refine XS.iload X440.here hx rfl (hb hby at_468) rfl ?_
            show Steps p.tables e below (T440.setTop (mkF m 470 #[.val (.int p1), .val (.int p2), .val (.int p3), .val (.int p4), .val (.int p5), .val (.int ((p1 &&& (3 : Int32)) - (1 : Int32))), .val (.int (f0_v14 p1)), .val (.int (f0_v23 p1)), .val (.ref b6), .val (.ref b18), .val (.ref b37), .val (.int (f0_v151 p2)), .val (.int (f0_v163 p2)), .val (.int (f0_v175 p2)), .val (.int (f0_v184 p3)), .val (.int (f0_v196 p3)), .val (.int (f0_v208 p3)), .val (.int (f0_v217 p4)), .val (.int (f0_v229 p4)), .val (.int (f0_v241 p4)), .val (.int (f0_v251 p5)), .val (.int (f0_v261 p5)), .val (.int (f0_s0_274 p5)), .val (.int (f0_s0_287 p5)), .val (.int (f0_s0_300 p5)), .val (.ref b60), .val (.ref b81), .val (.ref b112), .val (.ref b153), .val (.int (f0_v408 p1 p2 p3 p4 p5)), .unset, .unset, .unset, .unset] [(.int (f0_v241 p4)), (.int (f0_v217 p4)), (.int (f0_s0_300 p5)), (.int (f0_v208 p3)), (.int (f0_v184 p3)), (.int (f0_s0_287 p5)), (.int (f0_v175 p2)), (.int (f0_v151 p2)), (.int (f0_s0_274 p5)), (.int (1 : Int32))])) _
            refine st441 _ ?_
            show Steps p.tables e below (T441.setTop (mkF m 473 #[.val (.int p1), .val (.int p2), .val (.int p3), .val (.int p4), .val (.int p5), .val (.int ((p1 &&& (3 : Int32)) - (1 : Int32))), .val (.int (f0_v14 p1)), .val (.int (f0_v23 p1)), .val (.ref b6), .val (.ref b18), .val (.ref b37), .val (.int (f0_v151 p2)), .val (.int (f0_v163 p2)), .val (.int (f0_v175 p2)), .val (.int (f0_v184 p3)), .val (.int (f0_v196 p3)), .val (.int (f0_v208 p3)), .val (.int (f0_v217 p4)), .val (.int (f0_v229 p4)), .val (.int (f0_v241 p4)), .val (.int (f0_v251 p5)), .val (.int (f0_v261 p5)), .val (.int (f0_s0_274 p5)), .val (.int (f0_s0_287 p5)), .val (.int (f0_s0_300 p5)), .val (.ref b60), .val (.ref b81), .val (.ref b112), .val (.ref b153), .val (.int (f0_v408 p1 p2 p3 p4 p5)), .unset, .unset, .unset, .unset] [(.int (f13 (1 : Int32) (f0_s0_274 p5) (f0_v151 p2) (f0_v175 p2) (f0_s0_287 p5) (f0_v184 p3) (f0_v208 p3) (f0_s0_300 p5) (f0_v217 p4) (f0_v241 p4)))])) _
            refine XS.iload X441.here hx rfl (hb hby at_473) rfl ?_
            exact k
          by_cases hc475 : (f13 (1 : Int32) (f0_s0_274 p5) (f0_v151 p2) (f0_v175 p2) (f0_s0_287 p5) (f0_v184 p3) (f0_v208 p3) (f0_s0_300 p5) (f0_v217 p4) (f0_v241 p4)) = (f0_v251 p5)
          · have pre78 : ∀ t, Steps p.tables e below (T441.setTop (mkF m 482 #[.val (.int p1), .val (.int p2), .val (.int p3), .val (.int p4), .val (.int p5), .val (.int ((p1 &&& (3 : Int32)) - (1 : Int32))), .val (.int (f0_v14 p1)), .val (.int (f0_v23 p1)), .val (.ref b6), .val (.ref b18), .val (.ref b37), .val (.int (f0_v151 p2)), .val (.int (f0_v163 p2)), .val (.int (f0_v175 p2)), .val (.int (f0_v184 p3)), .val (.int (f0_v196 p3)), .val (.int (f0_v208 p3)), .val (.int (f0_v217 p4)), .val (.int (f0_v229 p4)), .val (.int (f0_v241 p4)), .val (.int (f0_v251 p5)), .val (.int (f0_v261 p5)), .val (.int (f0_s0_274 p5)), .val (.int (f0_s0_287 p5)), .val (.int (f0_s0_300 p5)), .val (.ref b60), .val (.ref b81), .val (.ref b112), .val (.ref b153), .val (.int (f0_v408 p1 p2 p3 p4 p5)), .unset, .unset, .unset, .unset] [(.int (f0_v251 p5)), (.int (f0_v23 p1))])) t → Steps p.tables e below (s₁.setTop (entryFrame m #[(.int p1), (.int p2), (.int p3), (.int p4), (.int p5)] maxLocals)) t := by
              intro t k
              refine pre77 t ?_
              refine XS.icmpNo X441.here hx rfl (hb hby at_475) rfl (teq hc475).2 ?_
              refine XS.iload X441.here hx rfl (hb hby at_478) rfl ?_
              refine XS.iload X441.here hx rfl (hb hby at_480) rfl ?_
              exact k
            by_cases hc482 : (f0_v23 p1) = (f0_v251 p5)
            · obtain ⟨_, _, ⟨T442, L442, k442, n442⟩, -, X442, ⟨Lc442, hQ442, l442, y442, z442⟩, st442⟩ := Jvm.LawKit.callS X441 hx (y := (⟨"com/example/podflow/podflow/simulation/BallotVotePinLaw", "firstTo", "(IZIIZIIZII)I"⟩ : MethodName)) hown (mvT hZ (hw _ (List.mem_of_getElem? (i := 95) rfl))) (mvT hZ (hw _ (List.mem_of_getElem? (i := 96) rfl))) (mvT hZ (hw _ (List.mem_of_getElem? (i := 3) rfl))) (mvT hZ (hw _ (List.mem_of_getElem? (i := 97) rfl))) (by decide) (backOf (W := 0) (rm13 l Z a0 hw [] (2 : Int32) (f0_s0_274 p5) (f0_v151 p2) (f0_v175 p2) (f0_s0_287 p5) (f0_v184 p3) (f0_v208 p3) (f0_s0_300 p5) (f0_v217 p4) (f0_v241 p4) h401 n0 c402 ) hZ (hw _ (List.mem_of_getElem? (i := 97) rfl)) (hw _ (List.mem_of_getElem? (i := 3) rfl)) (by decide) (by decide)) (g := (mkF m 504 #[.val (.int p1), .val (.int p2), .val (.int p3), .val (.int p4), .val (.int p5), .val (.int ((p1 &&& (3 : Int32)) - (1 : Int32))), .val (.int (f0_v14 p1)), .val (.int (f0_v23 p1)), .val (.ref b6), .val (.ref b18), .val (.ref b37), .val (.int (f0_v151 p2)), .val (.int (f0_v163 p2)), .val (.int (f0_v175 p2)), .val (.int (f0_v184 p3)), .val (.int (f0_v196 p3)), .val (.int (f0_v208 p3)), .val (.int (f0_v217 p4)), .val (.int (f0_v229 p4)), .val (.int (f0_v241 p4)), .val (.int (f0_v251 p5)), .val (.int (f0_v261 p5)), .val (.int (f0_s0_274 p5)), .val (.int (f0_s0_287 p5)), .val (.int (f0_s0_300 p5)), .val (.ref b60), .val (.ref b81), .val (.ref b112), .val (.ref b153), .val (.int (f0_v408 p1 p2 p3 p4 p5)), .unset, .unset, .unset, .unset] [(.int (f0_v241 p4)), (.int (f0_v217 p4)), (.int (f0_s0_300 p5)), (.int (f0_v208 p3)), (.int (f0_v184 p3)), (.int (f0_s0_287 p5)), (.int (f0_v175 p2)), (.int (f0_v151 p2)), (.int (f0_s0_274 p5)), (.int (2 : Int32))])) rfl (by rw [hml]; rfl) (argsL := [(.int (2 : Int32)), (.int (f0_s0_274 p5)), (.int (f0_v151 p2)), (.int (f0_v175 p2)), (.int (f0_s0_287 p5)), (.int (f0_v184 p3)), (.int (f0_v208 p3)), (.int (f0_s0_300 p5)), (.int (f0_v217 p4)), (.int (f0_v241 p4))]) (rest := []) (lenOf pd_9 rfl) rfl (by show 2 * 0 + _ ≤ _; exact Nat.le_of_eq rfl) (hb hby at_504) (fun _ _ => ⟨rfl, e441, (by decide : 13 + 0 ≤ _), (by decide : 48 + 0 ≤ _)⟩)
              dsimp only [Pt.U, Pt.locs, Pt.cells, Pt.slots] at X442 l442 y442 z442 st442 hQ442
              subst l442 y442 z442
              obtain ⟨rfl, N442q, e442⟩ := hQ442
              have N442 := Fr.app N441 N442q
              have pre79 : ∀ t, Steps p.tables e below (T442.setTop (mkF m 509 #[.val (.int p1), .val (.int p2), .val (.int p3), .val (.int p4), .val (.int p5), .val (.int ((p1 &&& (3 : Int32)) - (1 : Int32))), .val (.int (f0_v14 p1)), .val (.int (f0_v23 p1)), .val (.ref b6), .val (.ref b18), .val (.ref b37), .val (.int (f0_v151 p2)), .val (.int (f0_v163 p2)), .val (.int (f0_v175 p2)), .val (.int (f0_v184 p3)), .val (.int (f0_v196 p3)), .val (.int (f0_v208 p3)), .val (.int (f0_v217 p4)), .val (.int (f0_v229 p4)), .val (.int (f0_v241 p4)), .val (.int (f0_v251 p5)), .val (.int (f0_v261 p5)), .val (.int (f0_s0_274 p5)), .val (.int (f0_s0_287 p5)), .val (.int (f0_s0_300 p5)), .val (.ref b60), .val (.ref b81), .val (.ref b112), .val (.ref b153), .val (.int (f0_v408 p1 p2 p3 p4 p5)), .unset, .unset, .unset, .unset] [(.int (f0_v251 p5)), (.int (f13 (2 : Int32) (f0_s0_274 p5) (f0_v151 p2) (f0_v175 p2) (f0_s0_287 p5) (f0_v184 p3) (f0_v208 p3) (f0_s0_300 p5) (f0_v217 p4) (f0_v241 p4)))])) t → Steps p.tables e below (s₁.setTop (entryFrame m #[(.int p1), (.int p2), (.int p3), (.int p4), (.int p5)] maxLocals)) t := by
                intro t k
                refine pre78 t ?_
                show Steps p.tables e below (T441.setTop (mkF m 482 #[.val (.int p1), .val (.int p2), .val (.int p3), .val (.int p4), .val (.int p5), .val (.int ((p1 &&& (3 : Int32)) - (1 : Int32))), .val (.int (f0_v14 p1)), .val (.int (f0_v23 p1)), .val (.ref b6), .val (.ref b18), .val (.ref b37), .val (.int (f0_v151 p2)), .val (.int (f0_v163 p2)), .val (.int (f0_v175 p2)), .val (.int (f0_v184 p3)), .val (.int (f0_v196 p3)), .val (.int (f0_v208 p3)), .val (.int (f0_v217 p4)), .val (.int (f0_v229 p4)), .val (.int (f0_v241 p4)), .val (.int (f0_v251 p5)), .val (.int (f0_v261 p5)), .val (.int (f0_s0_274 p5)), .val (.int (f0_s0_287 p5)), .val (.int (f0_s0_300 p5)), .val (.ref b60), .val (.ref b81), .val (.ref b112), .val (.ref b153), .val (.int (f0_v408 p1 p2 p3 p4 p5)), .unset, .unset, .unset, .unset] [(.int (f0_v251 p5)), (.int (f0_v23 p1))])) _
                refine XS.icmpNo X441.here hx rfl (hb hby at_482) rfl (teq hc482).2 ?_
                refine XS.iconst X441.here hx rfl (hb hby at_485) ?_
                refine XS.iload X441.here hx rfl (hb hby at_486) rfl ?_
                refine XS.iload X441.here hx rfl (hb hby at_488) rfl ?_
                show Steps p.tables e below (T441.setTop (mkF m 490 #[.val (.int p1), .val (.int p2), .val (.int p3), .val (.int p4), .val (.int p5), .val (.int ((p1 &&& (3 : Int32)) - (1 : Int32))), .val (.int (f0_v14 p1)), .val (.int (f0_v23 p1)), .val (.ref b6), .val (.ref b18), .val (.ref b37), .val (.int (f0_v151 p2)), .val (.int (f0_v163 p2)), .val (.int (f0_v175 p2)), .val (.int (f0_v184 p3)), .val (.int (f0_v196 p3)), .val (.int (f0_v208 p3)), .val (.int (f0_v217 p4)), .val (.int (f0_v229 p4)), .val (.int (f0_v241 p4)), .val (.int (f0_v251 p5)), .val (.int (f0_v261 p5)), .val (.int (f0_s0_274 p5)), .val (.int (f0_s0_287 p5)), .val (.int (f0_s0_300 p5)), .val (.ref b60), .val (.ref b81), .val (.ref b112), .val (.ref b153), .val (.int (f0_v408 p1 p2 p3 p4 p5)), .unset, .unset, .unset, .unset] [(.int (f0_v151 p2)), (.int (f0_s0_274 p5)), (.int (2 : Int32))])) _
                refine XS.iload X441.here hx rfl (hb hby at_490) rfl ?_
                refine XS.iload X441.here hx rfl (hb hby at_492) rfl ?_
                refine XS.iload X441.here hx rfl (hb hby at_494) rfl ?_
                refine XS.iload X441.here hx rfl (hb hby at_496) rfl ?_
                show Steps p.tables e below (T441.setTop (mkF m 498 #[.val (.int p1), .val (.int p2), .val (.int p3), .val (.int p4), .val (.int p5), .val (.int ((p1 &&& (3 : Int32)) - (1 : Int32))), .val (.int (f0_v14 p1)), .val (.int (f0_v23 p1)), .val (.ref b6), .val (.ref b18), .val (.ref b37), .val (.int (f0_v151 p2)), .val (.int (f0_v163 p2)), .val (.int (f0_v175 p2)), .val (.int (f0_v184 p3)), .val (.int (f0_v196 p3)), .val (.int (f0_v208 p3)), .val (.int (f0_v217 p4)), .val (.int (f0_v229 p4)), .val (.int (f0_v241 p4)), .val (.int (f0_v251 p5)), .val (.int (f0_v261 p5)), .val (.int (f0_s0_274 p5)), .val (.int (f0_s0_287 p5)), .val (.int (f0_s0_300 p5)), .val (.ref b60), .val (.ref b81), .val (.ref b112), .val (.ref b153), .val (.int (f0_v408 p1 p2 p3 p4 p5)), .unset, .unset, .unset, .unset] [(.int (f0_v208 p3)), (.int (f0_v184 p3)), (.int (f0_s0_287 p5)), (.int (f0_v175 p2)), (.int (f0_v151 p2)), (.int (f0_s0_274 p5)), (.int (2 : Int32))])) _
                refine XS.iload X441.here hx rfl (hb hby at_498) rfl ?_
                refine XS.iload X441.here hx rfl (hb hby at_500) rfl ?_
                refine XS.iload X441.here hx rfl (hb hby at_502) rfl ?_
                show Steps p.tables e below (T441.setTop (mkF m 504 #[.val (.int p1), .val (.int p2), .val (.int p3), .val (.int p4), .val (.int p5), .val (.int ((p1 &&& (3 : Int32)) - (1 : Int32))), .val (.int (f0_v14 p1)), .val (.int (f0_v23 p1)), .val (.ref b6), .val (.ref b18), .val (.ref b37), .val (.int (f0_v151 p2)), .val (.int (f0_v163 p2)), .val (.int (f0_v175 p2)), .val (.int (f0_v184 p3)), .val (.int (f0_v196 p3)), .val (.int (f0_v208 p3)), .val (.int (f0_v217 p4)), .val (.int (f0_v229 p4)), .val (.int (f0_v241 p4)), .val (.int (f0_v251 p5)), .val (.int (f0_v261 p5)), .val (.int (f0_s0_274 p5)), .val (.int (f0_s0_287 p5)), .val (.int (f0_s0_300 p5)), .val (.ref b60), .val (.ref b81), .val (.ref b112), .val (.ref b153), .val (.int (f0_v408 p1 p2 p3 p4 p5)), .unset, .unset, .unset, .unset] [(.int (f0_v241 p4)), (.int (f0_v217 p4)), (.int (f0_s0_300 p5)), (.int (f0_v208 p3)), (.int (f0_v184 p3)), (.int (f0_s0_287 p5)), (.int (f0_v175 p2)), (.int (f0_v151 p2)), (.int (f0_s0_274 p5)), (.int (2 : Int32))])) _
                refine st442 _ ?_
                show Steps p.tables e below (T442.setTop (mkF m 507 #[.val (.int p1), .val (.int p2), .val (.int p3), .val (.int p4), .val (.int p5), .val (.int ((p1 &&& (3 : Int32)) - (1 : Int32))), .val (.int (f0_v14 p1)), .val (.int (f0_v23 p1)), .val (.ref b6), .val (.ref b18), .val (.ref b37), .val (.int (f0_v151 p2)), .val (.int (f0_v163 p2)), .val (.int (f0_v175 p2)), .val (.int (f0_v184 p3)), .val (.int (f0_v196 p3)), .val (.int (f0_v208 p3)), .val (.int (f0_v217 p4)), .val (.int (f0_v229 p4)), .val (.int (f0_v241 p4)), .val (.int (f0_v251 p5)), .val (.int (f0_v261 p5)), .val (.int (f0_s0_274 p5)), .val (.int (f0_s0_287 p5)), .val (.int (f0_s0_300 p5)), .val (.ref b60), .val (.ref b81), .val (.ref b112), .val (.ref b153), .val (.int (f0_v408 p1 p2 p3 p4 p5)), .unset, .unset, .unset, .unset] [(.int (f13 (2 : Int32) (f0_s0_274 p5) (f0_v151 p2) (f0_v175 p2) (f0_s0_287 p5) (f0_v184 p3) (f0_v208 p3) (f0_s0_300 p5) (f0_v217 p4) (f0_v241 p4)))])) _
                refine XS.iload X442.here hx rfl (hb hby at_507) rfl ?_
                exact k
              by_cases hc509 : (f13 (2 : Int32) (f0_s0_274 p5) (f0_v151 p2) (f0_v175 p2) (f0_s0_287 p5) (f0_v184 p3) (f0_v208 p3) (f0_s0_300 p5) (f0_v217 p4) (f0_v241 p4)) = (f0_v251 p5)
              · have eq80 := (show (f0_s0_517 p1 p2 p3 p4 p5) = (1 : Int32) from by unfold f0_s0_517; simp only [if_pos hc414, if_pos hc441, if_pos hc448, if_pos hc475, if_pos hc482, if_pos hc509])
                refine ⟨T442, _, X442, e442, N442, fun t k => ?_⟩
                try rw [eq80] at k
                refine pre79 t ?_
                refine XS.icmpNo X442.here hx rfl (hb hby at_509) rfl (teq hc509).2 ?_
                refine XS.iconst X442.here hx rfl (hb hby at_512) ?_
                refine XS.goto X442.here hx rfl (pc0 := 513) (pc' := 517) rfl (hb hby at_513) (by decide) (by decide) ?_
                exact k
              · have eq81 := (show (f0_s0_517 p1 p2 p3 p4 p5) = (0 : Int32) from by unfold f0_s0_517; simp only [if_pos hc414, if_pos hc441, if_pos hc448, if_pos hc475, if_pos hc482, if_neg hc509])
                refine ⟨T442, _, X442, e442, N442, fun t k => ?_⟩
                try rw [eq81] at k
                refine pre79 t ?_
                show Steps p.tables e below (T442.setTop (mkF m 509 #[.val (.int p1), .val (.int p2), .val (.int p3), .val (.int p4), .val (.int p5), .val (.int ((p1 &&& (3 : Int32)) - (1 : Int32))), .val (.int (f0_v14 p1)), .val (.int (f0_v23 p1)), .val (.ref b6), .val (.ref b18), .val (.ref b37), .val (.int (f0_v151 p2)), .val (.int (f0_v163 p2)), .val (.int (f0_v175 p2)), .val (.int (f0_v184 p3)), .val (.int (f0_v196 p3)), .val (.int (f0_v208 p3)), .val (.int (f0_v217 p4)), .val (.int (f0_v229 p4)), .val (.int (f0_v241 p4)), .val (.int (f0_v251 p5)), .val (.int (f0_v261 p5)), .val (.int (f0_s0_274 p5)), .val (.int (f0_s0_287 p5)), .val (.int (f0_s0_300 p5)), .val (.ref b60), .val (.ref b81), .val (.ref b112), .val (.ref b153), .val (.int (f0_v408 p1 p2 p3 p4 p5)), .unset, .unset, .unset, .unset] [(.int (f0_v251 p5)), (.int (f13 (2 : Int32) (f0_s0_274 p5) (f0_v151 p2) (f0_v175 p2) (f0_s0_287 p5) (f0_v184 p3) (f0_v208 p3) (f0_s0_300 p5) (f0_v217 p4) (f0_v241 p4)))])) _
                refine XS.icmpYes X442.here hx rfl (pc0 := 509) (pc' := 516) rfl (hb hby at_509) rfl (feq hc509).2 (by decide) (by decide) ?_
                refine XS.iconst X442.here hx rfl (hb hby at_516) ?_
                exact k
            · have eq82 := (show (f0_s0_517 p1 p2 p3 p4 p5) = (1 : Int32) from by unfold f0_s0_517; simp only [if_pos hc414, if_pos hc441, if_pos hc448, if_pos hc475, if_neg hc482])
              refine ⟨T441, _, X441, e441, N441, fun t k => ?_⟩
              try rw [eq82] at k
              refine pre78 t ?_
              refine XS.icmpYes X441.here hx rfl (pc0 := 482) (pc' := 512) rfl (hb hby at_482) rfl (feq hc482).2 (by decide) (by decide) ?_
              refine XS.iconst X441.here hx rfl (hb hby at_512) ?_
              show Steps p.tables e below (T441.setTop (mkF m 513 #[.val (.int p1), .val (.int p2), .val (.int p3), .val (.int p4), .val (.int p5), .val (.int ((p1 &&& (3 : Int32)) - (1 : Int32))), .val (.int (f0_v14 p1)), .val (.int (f0_v23 p1)), .val (.ref b6), .val (.ref b18), .val (.ref b37), .val (.int (f0_v151 p2)), .val (.int (f0_v163 p2)), .val (.int (f0_v175 p2)), .val (.int (f0_v184 p3)), .val (.int (f0_v196 p3)), .val (.int (f0_v208 p3)), .val (.int (f0_v217 p4)), .val (.int (f0_v229 p4)), .val (.int (f0_v241 p4)), .val (.int (f0_v251 p5)), .val (.int (f0_v261 p5)), .val (.int (f0_s0_274 p5)), .val (.int (f0_s0_287 p5)), .val (.int (f0_s0_300 p5)), .val (.ref b60), .val (.ref b81), .val (.ref b112), .val (.ref b153), .val (.int (f0_v408 p1 p2 p3 p4 p5)), .unset, .unset, .unset, .unset] [(.int (1 : Int32))])) _
              refine XS.goto X441.here hx rfl (pc0 := 513) (pc' := 517) rfl (hb hby at_513) (by decide) (by decide) ?_
              exact k
          · have eq83 := (show (f0_s0_517 p1 p2 p3 p4 p5) = (0 : Int32) from by unfold f0_s0_517; simp only [if_pos hc414, if_pos hc441, if_pos hc448, if_neg hc475])
            refine ⟨T441, _, X441, e441, N441, fun t k => ?_⟩
            try rw [eq83] at k
            refine pre77 t ?_
            refine XS.icmpYes X441.here hx rfl (pc0 := 475) (pc' := 516) rfl (hb hby at_475) rfl (feq hc475).2 (by decide) (by decide) ?_
            refine XS.iconst X441.here hx rfl (hb hby at_516) ?_
            exact k
        · have pre84 : ∀ t, Steps p.tables e below (T440.setTop (mkF m 482 #[.val (.int p1), .val (.int p2), .val (.int p3), .val (.int p4), .val (.int p5), .val (.int ((p1 &&& (3 : Int32)) - (1 : Int32))), .val (.int (f0_v14 p1)), .val (.int (f0_v23 p1)), .val (.ref b6), .val (.ref b18), .val (.ref b37), .val (.int (f0_v151 p2)), .val (.int (f0_v163 p2)), .val (.int (f0_v175 p2)), .val (.int (f0_v184 p3)), .val (.int (f0_v196 p3)), .val (.int (f0_v208 p3)), .val (.int (f0_v217 p4)), .val (.int (f0_v229 p4)), .val (.int (f0_v241 p4)), .val (.int (f0_v251 p5)), .val (.int (f0_v261 p5)), .val (.int (f0_s0_274 p5)), .val (.int (f0_s0_287 p5)), .val (.int (f0_s0_300 p5)), .val (.ref b60), .val (.ref b81), .val (.ref b112), .val (.ref b153), .val (.int (f0_v408 p1 p2 p3 p4 p5)), .unset, .unset, .unset, .unset] [(.int (f0_v251 p5)), (.int (f0_v23 p1))])) t → Steps p.tables e below (s₁.setTop (entryFrame m #[(.int p1), (.int p2), (.int p3), (.int p4), (.int p5)] maxLocals)) t := by
            intro t k
            refine pre76 t ?_
            refine XS.icmpYes X440.here hx rfl (pc0 := 448) (pc' := 478) rfl (hb hby at_448) rfl (feq hc448).2 (by decide) (by decide) ?_
            show Steps p.tables e below (T440.setTop (mkF m 478 #[.val (.int p1), .val (.int p2), .val (.int p3), .val (.int p4), .val (.int p5), .val (.int ((p1 &&& (3 : Int32)) - (1 : Int32))), .val (.int (f0_v14 p1)), .val (.int (f0_v23 p1)), .val (.ref b6), .val (.ref b18), .val (.ref b37), .val (.int (f0_v151 p2)), .val (.int (f0_v163 p2)), .val (.int (f0_v175 p2)), .val (.int (f0_v184 p3)), .val (.int (f0_v196 p3)), .val (.int (f0_v208 p3)), .val (.int (f0_v217 p4)), .val (.int (f0_v229 p4)), .val (.int (f0_v241 p4)), .val (.int (f0_v251 p5)), .val (.int (f0_v261 p5)), .val (.int (f0_s0_274 p5)), .val (.int (f0_s0_287 p5)), .val (.int (f0_s0_300 p5)), .val (.ref b60), .val (.ref b81), .val (.ref b112), .val (.ref b153), .val (.int (f0_v408 p1 p2 p3 p4 p5)), .unset, .unset, .unset, .unset] [])) _
            refine XS.iload X440.here hx rfl (hb hby at_478) rfl ?_
            refine XS.iload X440.here hx rfl (hb hby at_480) rfl ?_
            exact k
          by_cases hc482 : (f0_v23 p1) = (f0_v251 p5)
          · obtain ⟨_, _, ⟨T443, L443, k443, n443⟩, -, X443, ⟨Lc443, hQ443, l443, y443, z443⟩, st443⟩ := Jvm.LawKit.callS X440 hx (y := (⟨"com/example/podflow/podflow/simulation/BallotVotePinLaw", "firstTo", "(IZIIZIIZII)I"⟩ : MethodName)) hown (mvT hZ (hw _ (List.mem_of_getElem? (i := 95) rfl))) (mvT hZ (hw _ (List.mem_of_getElem? (i := 96) rfl))) (mvT hZ (hw _ (List.mem_of_getElem? (i := 3) rfl))) (mvT hZ (hw _ (List.mem_of_getElem? (i := 97) rfl))) (by decide) (backOf (W := 0) (rm13 l Z a0 hw [] (2 : Int32) (f0_s0_274 p5) (f0_v151 p2) (f0_v175 p2) (f0_s0_287 p5) (f0_v184 p3) (f0_v208 p3) (f0_s0_300 p5) (f0_v217 p4) (f0_v241 p4) h401 n0 c402 ) hZ (hw _ (List.mem_of_getElem? (i := 97) rfl)) (hw _ (List.mem_of_getElem? (i := 3) rfl)) (by decide) (by decide)) (g := (mkF m 504 #[.val (.int p1), .val (.int p2), .val (.int p3), .val (.int p4), .val (.int p5), .val (.int ((p1 &&& (3 : Int32)) - (1 : Int32))), .val (.int (f0_v14 p1)), .val (.int (f0_v23 p1)), .val (.ref b6), .val (.ref b18), .val (.ref b37), .val (.int (f0_v151 p2)), .val (.int (f0_v163 p2)), .val (.int (f0_v175 p2)), .val (.int (f0_v184 p3)), .val (.int (f0_v196 p3)), .val (.int (f0_v208 p3)), .val (.int (f0_v217 p4)), .val (.int (f0_v229 p4)), .val (.int (f0_v241 p4)), .val (.int (f0_v251 p5)), .val (.int (f0_v261 p5)), .val (.int (f0_s0_274 p5)), .val (.int (f0_s0_287 p5)), .val (.int (f0_s0_300 p5)), .val (.ref b60), .val (.ref b81), .val (.ref b112), .val (.ref b153), .val (.int (f0_v408 p1 p2 p3 p4 p5)), .unset, .unset, .unset, .unset] [(.int (f0_v241 p4)), (.int (f0_v217 p4)), (.int (f0_s0_300 p5)), (.int (f0_v208 p3)), (.int (f0_v184 p3)), (.int (f0_s0_287 p5)), (.int (f0_v175 p2)), (.int (f0_v151 p2)), (.int (f0_s0_274 p5)), (.int (2 : Int32))])) rfl (by rw [hml]; rfl) (argsL := [(.int (2 : Int32)), (.int (f0_s0_274 p5)), (.int (f0_v151 p2)), (.int (f0_v175 p2)), (.int (f0_s0_287 p5)), (.int (f0_v184 p3)), (.int (f0_v208 p3)), (.int (f0_s0_300 p5)), (.int (f0_v217 p4)), (.int (f0_v241 p4))]) (rest := []) (lenOf pd_9 rfl) rfl (by show 2 * 0 + _ ≤ _; exact Nat.le_of_eq rfl) (hb hby at_504) (fun _ _ => ⟨rfl, e440, (by decide : 13 + 0 ≤ _), (by decide : 48 + 0 ≤ _)⟩)
            dsimp only [Pt.U, Pt.locs, Pt.cells, Pt.slots] at X443 l443 y443 z443 st443 hQ443
            subst l443 y443 z443
            obtain ⟨rfl, N443q, e443⟩ := hQ443
            have N443 := Fr.app N440 N443q
            have pre85 : ∀ t, Steps p.tables e below (T443.setTop (mkF m 509 #[.val (.int p1), .val (.int p2), .val (.int p3), .val (.int p4), .val (.int p5), .val (.int ((p1 &&& (3 : Int32)) - (1 : Int32))), .val (.int (f0_v14 p1)), .val (.int (f0_v23 p1)), .val (.ref b6), .val (.ref b18), .val (.ref b37), .val (.int (f0_v151 p2)), .val (.int (f0_v163 p2)), .val (.int (f0_v175 p2)), .val (.int (f0_v184 p3)), .val (.int (f0_v196 p3)), .val (.int (f0_v208 p3)), .val (.int (f0_v217 p4)), .val (.int (f0_v229 p4)), .val (.int (f0_v241 p4)), .val (.int (f0_v251 p5)), .val (.int (f0_v261 p5)), .val (.int (f0_s0_274 p5)), .val (.int (f0_s0_287 p5)), .val (.int (f0_s0_300 p5)), .val (.ref b60), .val (.ref b81), .val (.ref b112), .val (.ref b153), .val (.int (f0_v408 p1 p2 p3 p4 p5)), .unset, .unset, .unset, .unset] [(.int (f0_v251 p5)), (.int (f13 (2 : Int32) (f0_s0_274 p5) (f0_v151 p2) (f0_v175 p2) (f0_s0_287 p5) (f0_v184 p3) (f0_v208 p3) (f0_s0_300 p5) (f0_v217 p4) (f0_v241 p4)))])) t → Steps p.tables e below (s₁.setTop (entryFrame m #[(.int p1), (.int p2), (.int p3), (.int p4), (.int p5)] maxLocals)) t := by
              intro t k
              refine pre84 t ?_
              refine XS.icmpNo X440.here hx rfl (hb hby at_482) rfl (teq hc482).2 ?_
              refine XS.iconst X440.here hx rfl (hb hby at_485) ?_
              show Steps p.tables e below (T440.setTop (mkF m 486 #[.val (.int p1), .val (.int p2), .val (.int p3), .val (.int p4), .val (.int p5), .val (.int ((p1 &&& (3 : Int32)) - (1 : Int32))), .val (.int (f0_v14 p1)), .val (.int (f0_v23 p1)), .val (.ref b6), .val (.ref b18), .val (.ref b37), .val (.int (f0_v151 p2)), .val (.int (f0_v163 p2)), .val (.int (f0_v175 p2)), .val (.int (f0_v184 p3)), .val (.int (f0_v196 p3)), .val (.int (f0_v208 p3)), .val (.int (f0_v217 p4)), .val (.int (f0_v229 p4)), .val (.int (f0_v241 p4)), .val (.int (f0_v251 p5)), .val (.int (f0_v261 p5)), .val (.int (f0_s0_274 p5)), .val (.int (f0_s0_287 p5)), .val (.int (f0_s0_300 p5)), .val (.ref b60), .val (.ref b81), .val (.ref b112), .val (.ref b153), .val (.int (f0_v408 p1 p2 p3 p4 p5)), .unset, .unset, .unset, .unset] [(.int (2 : Int32))])) _
              refine XS.iload X440.here hx rfl (hb hby at_486) rfl ?_
              refine XS.iload X440.here hx rfl (hb hby at_488) rfl ?_
              refine XS.iload X440.here hx rfl (hb hby at_490) rfl ?_
              refine XS.iload X440.here hx rfl (hb hby at_492) rfl ?_
              show Steps p.tables e below (T440.setTop (mkF m 494 #[.val (.int p1), .val (.int p2), .val (.int p3), .val (.int p4), .val (.int p5), .val (.int ((p1 &&& (3 : Int32)) - (1 : Int32))), .val (.int (f0_v14 p1)), .val (.int (f0_v23 p1)), .val (.ref b6), .val (.ref b18), .val (.ref b37), .val (.int (f0_v151 p2)), .val (.int (f0_v163 p2)), .val (.int (f0_v175 p2)), .val (.int (f0_v184 p3)), .val (.int (f0_v196 p3)), .val (.int (f0_v208 p3)), .val (.int (f0_v217 p4)), .val (.int (f0_v229 p4)), .val (.int (f0_v241 p4)), .val (.int (f0_v251 p5)), .val (.int (f0_v261 p5)), .val (.int (f0_s0_274 p5)), .val (.int (f0_s0_287 p5)), .val (.int (f0_s0_300 p5)), .val (.ref b60), .val (.ref b81), .val (.ref b112), .val (.ref b153), .val (.int (f0_v408 p1 p2 p3 p4 p5)), .unset, .unset, .unset, .unset] [(.int (f0_s0_287 p5)), (.int (f0_v175 p2)), (.int (f0_v151 p2)), (.int (f0_s0_274 p5)), (.int (2 : Int32))])) _
              refine XS.iload X440.here hx rfl (hb hby at_494) rfl ?_
              refine XS.iload X440.here hx rfl (hb hby at_496) rfl ?_
              refine XS.iload X440.here hx rfl (hb hby at_498) rfl ?_
              refine XS.iload X440.here hx rfl (hb hby at_500) rfl ?_
              show Steps p.tables e below (T440.setTop (mkF m 502 #[.val (.int p1), .val (.int p2), .val (.int p3), .val (.int p4), .val (.int p5), .val (.int ((p1 &&& (3 : Int32)) - (1 : Int32))), .val (.int (f0_v14 p1)), .val (.int (f0_v23 p1)), .val (.ref b6), .val (.ref b18), .val (.ref b37), .val (.int (f0_v151 p2)), .val (.int (f0_v163 p2)), .val (.int (f0_v175 p2)), .val (.int (f0_v184 p3)), .val (.int (f0_v196 p3)), .val (.int (f0_v208 p3)), .val (.int (f0_v217 p4)), .val (.int (f0_v229 p4)), .val (.int (f0_v241 p4)), .val (.int (f0_v251 p5)), .val (.int (f0_v261 p5)), .val (.int (f0_s0_274 p5)), .val (.int (f0_s0_287 p5)), .val (.int (f0_s0_300 p5)), .val (.ref b60), .val (.ref b81), .val (.ref b112), .val (.ref b153), .val (.int (f0_v408 p1 p2 p3 p4 p5)), .unset, .unset, .unset, .unset] [(.int (f0_v217 p4)), (.int (f0_s0_300 p5)), (.int (f0_v208 p3)), (.int (f0_v184 p3)), (.int (f0_s0_287 p5)), (.int (f0_v175 p2)), (.int (f0_v151 p2)), (.int (f0_s0_274 p5)), (.int (2 : Int32))])) _
              refine XS.iload X440.here hx rfl (hb hby at_502) rfl ?_
              show Steps p.tables e below (T440.setTop (mkF m 504 #[.val (.int p1), .val (.int p2), .val (.int p3), .val (.int p4), .val (.int p5), .val (.int ((p1 &&& (3 : Int32)) - (1 : Int32))), .val (.int (f0_v14 p1)), .val (.int (f0_v23 p1)), .val (.ref b6), .val (.ref b18), .val (.ref b37), .val (.int (f0_v151 p2)), .val (.int (f0_v163 p2)), .val (.int (f0_v175 p2)), .val (.int (f0_v184 p3)), .val (.int (f0_v196 p3)), .val (.int (f0_v208 p3)), .val (.int (f0_v217 p4)), .val (.int (f0_v229 p4)), .val (.int (f0_v241 p4)), .val (.int (f0_v251 p5)), .val (.int (f0_v261 p5)), .val (.int (f0_s0_274 p5)), .val (.int (f0_s0_287 p5)), .val (.int (f0_s0_300 p5)), .val (.ref b60), .val (.ref b81), .val (.ref b112), .val (.ref b153), .val (.int (f0_v408 p1 p2 p3 p4 p5)), .unset, .unset, .unset, .unset] [(.int (f0_v241 p4)), (.int (f0_v217 p4)), (.int (f0_s0_300 p5)), (.int (f0_v208 p3)), (.int (f0_v184 p3)), (.int (f0_s0_287 p5)), (.int (f0_v175 p2)), (.int (f0_v151 p2)), (.int (f0_s0_274 p5)), (.int (2 : Int32))])) _
              refine st443 _ ?_
              show Steps p.tables e below (T443.setTop (mkF m 507 #[.val (.int p1), .val (.int p2), .val (.int p3), .val (.int p4), .val (.int p5), .val (.int ((p1 &&& (3 : Int32)) - (1 : Int32))), .val (.int (f0_v14 p1)), .val (.int (f0_v23 p1)), .val (.ref b6), .val (.ref b18), .val (.ref b37), .val (.int (f0_v151 p2)), .val (.int (f0_v163 p2)), .val (.int (f0_v175 p2)), .val (.int (f0_v184 p3)), .val (.int (f0_v196 p3)), .val (.int (f0_v208 p3)), .val (.int (f0_v217 p4)), .val (.int (f0_v229 p4)), .val (.int (f0_v241 p4)), .val (.int (f0_v251 p5)), .val (.int (f0_v261 p5)), .val (.int (f0_s0_274 p5)), .val (.int (f0_s0_287 p5)), .val (.int (f0_s0_300 p5)), .val (.ref b60), .val (.ref b81), .val (.ref b112), .val (.ref b153), .val (.int (f0_v408 p1 p2 p3 p4 p5)), .unset, .unset, .unset, .unset] [(.int (f13 (2 : Int32) (f0_s0_274 p5) (f0_v151 p2) (f0_v175 p2) (f0_s0_287 p5) (f0_v184 p3) (f0_v208 p3) (f0_s0_300 p5) (f0_v217 p4) (f0_v241 p4)))])) _
              refine XS.iload X443.here hx rfl (hb hby at_507) rfl ?_
              exact k
            by_cases hc509 : (f13 (2 : Int32) (f0_s0_274 p5) (f0_v151 p2) (f0_v175 p2) (f0_s0_287 p5) (f0_v184 p3) (f0_v208 p3) (f0_s0_300 p5) (f0_v217 p4) (f0_v241 p4)) = (f0_v251 p5)
            · have eq86 := (show (f0_s0_517 p1 p2 p3 p4 p5) = (1 : Int32) from by unfold f0_s0_517; simp only [if_pos hc414, if_pos hc441, if_neg hc448, if_pos hc482, if_pos hc509])
              refine ⟨T443, _, X443, e443, N443, fun t k => ?_⟩
              try rw [eq86] at k
              refine pre85 t ?_
              refine XS.icmpNo X443.here hx rfl (hb hby at_509) rfl (teq hc509).2 ?_
              refine XS.iconst X443.here hx rfl (hb hby at_512) ?_
              refine XS.goto X443.here hx rfl (pc0 := 513) (pc' := 517) rfl (hb hby at_513) (by decide) (by decide) ?_
              exact k
            · have eq87 := (show (f0_s0_517 p1 p2 p3 p4 p5) = (0 : Int32) from by unfold f0_s0_517; simp only [if_pos hc414, if_pos hc441, if_neg hc448, if_pos hc482, if_neg hc509])
              refine ⟨T443, _, X443, e443, N443, fun t k => ?_⟩
              try rw [eq87] at k
              refine pre85 t ?_
              show Steps p.tables e below (T443.setTop (mkF m 509 #[.val (.int p1), .val (.int p2), .val (.int p3), .val (.int p4), .val (.int p5), .val (.int ((p1 &&& (3 : Int32)) - (1 : Int32))), .val (.int (f0_v14 p1)), .val (.int (f0_v23 p1)), .val (.ref b6), .val (.ref b18), .val (.ref b37), .val (.int (f0_v151 p2)), .val (.int (f0_v163 p2)), .val (.int (f0_v175 p2)), .val (.int (f0_v184 p3)), .val (.int (f0_v196 p3)), .val (.int (f0_v208 p3)), .val (.int (f0_v217 p4)), .val (.int (f0_v229 p4)), .val (.int (f0_v241 p4)), .val (.int (f0_v251 p5)), .val (.int (f0_v261 p5)), .val (.int (f0_s0_274 p5)), .val (.int (f0_s0_287 p5)), .val (.int (f0_s0_300 p5)), .val (.ref b60), .val (.ref b81), .val (.ref b112), .val (.ref b153), .val (.int (f0_v408 p1 p2 p3 p4 p5)), .unset, .unset, .unset, .unset] [(.int (f0_v251 p5)), (.int (f13 (2 : Int32) (f0_s0_274 p5) (f0_v151 p2) (f0_v175 p2) (f0_s0_287 p5) (f0_v184 p3) (f0_v208 p3) (f0_s0_300 p5) (f0_v217 p4) (f0_v241 p4)))])) _
              refine XS.icmpYes X443.here hx rfl (pc0 := 509) (pc' := 516) rfl (hb hby at_509) rfl (feq hc509).2 (by decide) (by decide) ?_
              refine XS.iconst X443.here hx rfl (hb hby at_516) ?_
              exact k
          · have eq88 := (show (f0_s0_517 p1 p2 p3 p4 p5) = (1 : Int32) from by unfold f0_s0_517; simp only [if_pos hc414, if_pos hc441, if_neg hc448, if_neg hc482])
            refine ⟨T440, _, X440, e440, N440, fun t k => ?_⟩
            try rw [eq88] at k
            refine pre84 t ?_
            refine XS.icmpYes X440.here hx rfl (pc0 := 482) (pc' := 512) rfl (hb hby at_482) rfl (feq hc482).2 (by decide) (by decide) ?_
            refine XS.iconst X440.here hx rfl (hb hby at_512) ?_
            show Steps p.tables e below (T440.setTop (mkF m 513 #[.val (.int p1), .val (.int p2), .val (.int p3), .val (.int p4), .val (.int p5), .val (.int ((p1 &&& (3 : Int32)) - (1 : Int32))), .val (.int (f0_v14 p1)), .val (.int (f0_v23 p1)), .val (.ref b6), .val (.ref b18), .val (.ref b37), .val (.int (f0_v151 p2)), .val (.int (f0_v163 p2)), .val (.int (f0_v175 p2)), .val (.int (f0_v184 p3)), .val (.int (f0_v196 p3)), .val (.int (f0_v208 p3)), .val (.int (f0_v217 p4)), .val (.int (f0_v229 p4)), .val (.int (f0_v241 p4)), .val (.int (f0_v251 p5)), .val (.int (f0_v261 p5)), .val (.int (f0_s0_274 p5)), .val (.int (f0_s0_287 p5)), .val (.int (f0_s0_300 p5)), .val (.ref b60), .val (.ref b81), .val (.ref b112), .val (.ref b153), .val (.int (f0_v408 p1 p2 p3 p4 p5)), .unset, .unset, .unset, .unset] [(.int (1 : Int32))])) _
            refine XS.goto X440.here hx rfl (pc0 := 513) (pc' := 517) rfl (hb hby at_513) (by decide) (by decide) ?_
            exact k
      · have eq89 := (show (f0_s0_517 p1 p2 p3 p4 p5) = (0 : Int32) from by unfold f0_s0_517; simp only [if_pos hc414, if_neg hc441])
        refine ⟨T440, _, X440, e440, N440, fun t k => ?_⟩
        try rw [eq89] at k
        refine pre75 t ?_
        refine XS.icmpYes X440.here hx rfl (pc0 := 441) (pc' := 516) rfl (hb hby at_441) rfl (feq hc441).2 (by decide) (by decide) ?_
        refine XS.iconst X440.here hx rfl (hb hby at_516) ?_
        exact k
    · have pre90 : ∀ t, Steps p.tables e below (T439.setTop (mkF m 448 #[.val (.int p1), .val (.int p2), .val (.int p3), .val (.int p4), .val (.int p5), .val (.int ((p1 &&& (3 : Int32)) - (1 : Int32))), .val (.int (f0_v14 p1)), .val (.int (f0_v23 p1)), .val (.ref b6), .val (.ref b18), .val (.ref b37), .val (.int (f0_v151 p2)), .val (.int (f0_v163 p2)), .val (.int (f0_v175 p2)), .val (.int (f0_v184 p3)), .val (.int (f0_v196 p3)), .val (.int (f0_v208 p3)), .val (.int (f0_v217 p4)), .val (.int (f0_v229 p4)), .val (.int (f0_v241 p4)), .val (.int (f0_v251 p5)), .val (.int (f0_v261 p5)), .val (.int (f0_s0_274 p5)), .val (.int (f0_s0_287 p5)), .val (.int (f0_s0_300 p5)), .val (.ref b60), .val (.ref b81), .val (.ref b112), .val (.ref b153), .val (.int (f0_v408 p1 p2 p3 p4 p5)), .unset, .unset, .unset, .unset] [(.int (f0_v251 p5)), (.int (f0_v14 p1))])) t → Steps p.tables e below (s₁.setTop (entryFrame m #[(.int p1), (.int p2), (.int p3), (.int p4), (.int p5)] maxLocals)) t := by
        intro t k
        refine pre73 t ?_
        refine XS.icmpYes X439.here hx rfl (pc0 := 414) (pc' := 444) rfl (hb hby at_414) rfl (feq hc414).2 (by decide) (by decide) ?_
        show Steps p.tables e below (T439.setTop (mkF m 444 #[.val (.int p1), .val (.int p2), .val (.int p3), .val (.int p4), .val (.int p5), .val (.int ((p1 &&& (3 : Int32)) - (1 : Int32))), .val (.int (f0_v14 p1)), .val (.int (f0_v23 p1)), .val (.ref b6), .val (.ref b18), .val (.ref b37), .val (.int (f0_v151 p2)), .val (.int (f0_v163 p2)), .val (.int (f0_v175 p2)), .val (.int (f0_v184 p3)), .val (.int (f0_v196 p3)), .val (.int (f0_v208 p3)), .val (.int (f0_v217 p4)), .val (.int (f0_v229 p4)), .val (.int (f0_v241 p4)), .val (.int (f0_v251 p5)), .val (.int (f0_v261 p5)), .val (.int (f0_s0_274 p5)), .val (.int (f0_s0_287 p5)), .val (.int (f0_s0_300 p5)), .val (.ref b60), .val (.ref b81), .val (.ref b112), .val (.ref b153), .val (.int (f0_v408 p1 p2 p3 p4 p5)), .unset, .unset, .unset, .unset] [])) _
        refine XS.iload X439.here hx rfl (hb hby at_444) rfl ?_
        refine XS.iload X439.here hx rfl (hb hby at_446) rfl ?_
        exact k
      by_cases hc448 : (f0_v14 p1) = (f0_v251 p5)
      · obtain ⟨_, _, ⟨T444, L444, k444, n444⟩, -, X444, ⟨Lc444, hQ444, l444, y444, z444⟩, st444⟩ := Jvm.LawKit.callS X439 hx (y := (⟨"com/example/podflow/podflow/simulation/BallotVotePinLaw", "firstTo", "(IZIIZIIZII)I"⟩ : MethodName)) hown (mvT hZ (hw _ (List.mem_of_getElem? (i := 95) rfl))) (mvT hZ (hw _ (List.mem_of_getElem? (i := 96) rfl))) (mvT hZ (hw _ (List.mem_of_getElem? (i := 3) rfl))) (mvT hZ (hw _ (List.mem_of_getElem? (i := 97) rfl))) (by decide) (backOf (W := 0) (rm13 l Z a0 hw [] (1 : Int32) (f0_s0_274 p5) (f0_v151 p2) (f0_v175 p2) (f0_s0_287 p5) (f0_v184 p3) (f0_v208 p3) (f0_s0_300 p5) (f0_v217 p4) (f0_v241 p4) h401 n0 c402 ) hZ (hw _ (List.mem_of_getElem? (i := 97) rfl)) (hw _ (List.mem_of_getElem? (i := 3) rfl)) (by decide) (by decide)) (g := (mkF m 470 #[.val (.int p1), .val (.int p2), .val (.int p3), .val (.int p4), .val (.int p5), .val (.int ((p1 &&& (3 : Int32)) - (1 : Int32))), .val (.int (f0_v14 p1)), .val (.int (f0_v23 p1)), .val (.ref b6), .val (.ref b18), .val (.ref b37), .val (.int (f0_v151 p2)), .val (.int (f0_v163 p2)), .val (.int (f0_v175 p2)), .val (.int (f0_v184 p3)), .val (.int (f0_v196 p3)), .val (.int (f0_v208 p3)), .val (.int (f0_v217 p4)), .val (.int (f0_v229 p4)), .val (.int (f0_v241 p4)), .val (.int (f0_v251 p5)), .val (.int (f0_v261 p5)), .val (.int (f0_s0_274 p5)), .val (.int (f0_s0_287 p5)), .val (.int (f0_s0_300 p5)), .val (.ref b60), .val (.ref b81), .val (.ref b112), .val (.ref b153), .val (.int (f0_v408 p1 p2 p3 p4 p5)), .unset, .unset, .unset, .unset] [(.int (f0_v241 p4)), (.int (f0_v217 p4)), (.int (f0_s0_300 p5)), (.int (f0_v208 p3)), (.int (f0_v184 p3)), (.int (f0_s0_287 p5)), (.int (f0_v175 p2)), (.int (f0_v151 p2)), (.int (f0_s0_274 p5)), (.int (1 : Int32))])) rfl (by rw [hml]; rfl) (argsL := [(.int (1 : Int32)), (.int (f0_s0_274 p5)), (.int (f0_v151 p2)), (.int (f0_v175 p2)), (.int (f0_s0_287 p5)), (.int (f0_v184 p3)), (.int (f0_v208 p3)), (.int (f0_s0_300 p5)), (.int (f0_v217 p4)), (.int (f0_v241 p4))]) (rest := []) (lenOf pd_9 rfl) rfl (by show 2 * 0 + _ ≤ _; exact Nat.le_of_eq rfl) (hb hby at_470) (fun _ _ => ⟨rfl, e439, (by decide : 13 + 0 ≤ _), (by decide : 48 + 0 ≤ _)⟩)
        dsimp only [Pt.U, Pt.locs, Pt.cells, Pt.slots] at X444 l444 y444 z444 st444 hQ444
        subst l444 y444 z444
        obtain ⟨rfl, N444q, e444⟩ := hQ444
        have N444 := Fr.app N439 N444q
        have pre91 : ∀ t, Steps p.tables e below (T444.setTop (mkF m 475 #[.val (.int p1), .val (.int p2), .val (.int p3), .val (.int p4), .val (.int p5), .val (.int ((p1 &&& (3 : Int32)) - (1 : Int32))), .val (.int (f0_v14 p1)), .val (.int (f0_v23 p1)), .val (.ref b6), .val (.ref b18), .val (.ref b37), .val (.int (f0_v151 p2)), .val (.int (f0_v163 p2)), .val (.int (f0_v175 p2)), .val (.int (f0_v184 p3)), .val (.int (f0_v196 p3)), .val (.int (f0_v208 p3)), .val (.int (f0_v217 p4)), .val (.int (f0_v229 p4)), .val (.int (f0_v241 p4)), .val (.int (f0_v251 p5)), .val (.int (f0_v261 p5)), .val (.int (f0_s0_274 p5)), .val (.int (f0_s0_287 p5)), .val (.int (f0_s0_300 p5)), .val (.ref b60), .val (.ref b81), .val (.ref b112), .val (.ref b153), .val (.int (f0_v408 p1 p2 p3 p4 p5)), .unset, .unset, .unset, .unset] [(.int (f0_v251 p5)), (.int (f13 (1 : Int32) (f0_s0_274 p5) (f0_v151 p2) (f0_v175 p2) (f0_s0_287 p5) (f0_v184 p3) (f0_v208 p3) (f0_s0_300 p5) (f0_v217 p4) (f0_v241 p4)))])) t → Steps p.tables e below (s₁.setTop (entryFrame m #[(.int p1), (.int p2), (.int p3), (.int p4), (.int p5)] maxLocals)) t := by
          intro t k
          refine pre90 t ?_
          refine XS.icmpNo X439.here hx rfl (hb hby at_448) rfl (teq hc448).2 ?_
          refine XS.iconst X439.here hx rfl (hb hby at_451) ?_
          show Steps p.tables e below (T439.setTop (mkF m 452 #[.val (.int p1), .val (.int p2), .val (.int p3), .val (.int p4), .val (.int p5), .val (.int ((p1 &&& (3 : Int32)) - (1 : Int32))), .val (.int (f0_v14 p1)), .val (.int (f0_v23 p1)), .val (.ref b6), .val (.ref b18), .val (.ref b37), .val (.int (f0_v151 p2)), .val (.int (f0_v163 p2)), .val (.int (f0_v175 p2)), .val (.int (f0_v184 p3)), .val (.int (f0_v196 p3)), .val (.int (f0_v208 p3)), .val (.int (f0_v217 p4)), .val (.int (f0_v229 p4)), .val (.int (f0_v241 p4)), .val (.int (f0_v251 p5)), .val (.int (f0_v261 p5)), .val (.int (f0_s0_274 p5)), .val (.int (f0_s0_287 p5)), .val (.int (f0_s0_300 p5)), .val (.ref b60), .val (.ref b81), .val (.ref b112), .val (.ref b153), .val (.int (f0_v408 p1 p2 p3 p4 p5)), .unset, .unset, .unset, .unset] [(.int (1 : Int32))])) _
          refine XS.iload X439.here hx rfl (hb hby at_452) rfl ?_
          refine XS.iload X439.here hx rfl (hb hby at_454) rfl ?_
          refine XS.iload X439.here hx rfl (hb hby at_456) rfl ?_
          refine XS.iload X439.here hx rfl (hb hby at_458) rfl ?_
          show Steps p.tables e below (T439.setTop (mkF m 460 #[.val (.int p1), .val (.int p2), .val (.int p3), .val (.int p4), .val (.int p5), .val (.int ((p1 &&& (3 : Int32)) - (1 : Int32))), .val (.int (f0_v14 p1)), .val (.int (f0_v23 p1)), .val (.ref b6), .val (.ref b18), .val (.ref b37), .val (.int (f0_v151 p2)), .val (.int (f0_v163 p2)), .val (.int (f0_v175 p2)), .val (.int (f0_v184 p3)), .val (.int (f0_v196 p3)), .val (.int (f0_v208 p3)), .val (.int (f0_v217 p4)), .val (.int (f0_v229 p4)), .val (.int (f0_v241 p4)), .val (.int (f0_v251 p5)), .val (.int (f0_v261 p5)), .val (.int (f0_s0_274 p5)), .val (.int (f0_s0_287 p5)), .val (.int (f0_s0_300 p5)), .val (.ref b60), .val (.ref b81), .val (.ref b112), .val (.ref b153), .val (.int (f0_v408 p1 p2 p3 p4 p5)), .unset, .unset, .unset, .unset] [(.int (f0_s0_287 p5)), (.int (f0_v175 p2)), (.int (f0_v151 p2)), (.int (f0_s0_274 p5)), (.int (1 : Int32))])) _
          refine XS.iload X439.here hx rfl (hb hby at_460) rfl ?_
          refine XS.iload X439.here hx rfl (hb hby at_462) rfl ?_
          refine XS.iload X439.here hx rfl (hb hby at_464) rfl ?_
          refine XS.iload X439.here hx rfl (hb hby at_466) rfl ?_
          show Steps p.tables e below (T439.setTop (mkF m 468 #[.val (.int p1), .val (.int p2), .val (.int p3), .val (.int p4), .val (.int p5), .val (.int ((p1 &&& (3 : Int32)) - (1 : Int32))), .val (.int (f0_v14 p1)), .val (.int (f0_v23 p1)), .val (.ref b6), .val (.ref b18), .val (.ref b37), .val (.int (f0_v151 p2)), .val (.int (f0_v163 p2)), .val (.int (f0_v175 p2)), .val (.int (f0_v184 p3)), .val (.int (f0_v196 p3)), .val (.int (f0_v208 p3)), .val (.int (f0_v217 p4)), .val (.int (f0_v229 p4)), .val (.int (f0_v241 p4)), .val (.int (f0_v251 p5)), .val (.int (f0_v261 p5)), .val (.int (f0_s0_274 p5)), .val (.int (f0_s0_287 p5)), .val (.int (f0_s0_300 p5)), .val (.ref b60), .val (.ref b81), .val (.ref b112), .val (.ref b153), .val (.int (f0_v408 p1 p2 p3 p4 p5)), .unset, .unset, .unset, .unset] [(.int (f0_v217 p4)), (.int (f0_s0_300 p5)), (.int (f0_v208 p3)), (.int (f0_v184 p3)), (.int (f0_s0_287 p5)), (.int (f0_v175 p2)), (.int (f0_v151 p2)), (.int (f0_s0_274 p5)), (.int (1 : Int32))])) _
          refine XS.iload X439.here hx rfl (hb hby at_468) rfl ?_
          show Steps p.tables e below (T439.setTop (mkF m 470 #[.val (.int p1), .val (.int p2), .val (.int p3), .val (.int p4), .val (.int p5), .val (.int ((p1 &&& (3 : Int32)) - (1 : Int32))), .val (.int (f0_v14 p1)), .val (.int (f0_v23 p1)), .val (.ref b6), .val (.ref b18), .val (.ref b37), .val (.int (f0_v151 p2)), .val (.int (f0_v163 p2)), .val (.int (f0_v175 p2)), .val (.int (f0_v184 p3)), .val (.int (f0_v196 p3)), .val (.int (f0_v208 p3)), .val (.int (f0_v217 p4)), .val (.int (f0_v229 p4)), .val (.int (f0_v241 p4)), .val (.int (f0_v251 p5)), .val (.int (f0_v261 p5)), .val (.int (f0_s0_274 p5)), .val (.int (f0_s0_287 p5)), .val (.int (f0_s0_300 p5)), .val (.ref b60), .val (.ref b81), .val (.ref b112), .val (.ref b153), .val (.int (f0_v408 p1 p2 p3 p4 p5)), .unset, .unset, .unset, .unset] [(.int (f0_v241 p4)), (.int (f0_v217 p4)), (.int (f0_s0_300 p5)), (.int (f0_v208 p3)), (.int (f0_v184 p3)), (.int (f0_s0_287 p5)), (.int (f0_v175 p2)), (.int (f0_v151 p2)), (.int (f0_s0_274 p5)), (.int (1 : Int32))])) _
          refine st444 _ ?_
          show Steps p.tables e below (T444.setTop (mkF m 473 #[.val (.int p1), .val (.int p2), .val (.int p3), .val (.int p4), .val (.int p5), .val (.int ((p1 &&& (3 : Int32)) - (1 : Int32))), .val (.int (f0_v14 p1)), .val (.int (f0_v23 p1)), .val (.ref b6), .val (.ref b18), .val (.ref b37), .val (.int (f0_v151 p2)), .val (.int (f0_v163 p2)), .val (.int (f0_v175 p2)), .val (.int (f0_v184 p3)), .val (.int (f0_v196 p3)), .val (.int (f0_v208 p3)), .val (.int (f0_v217 p4)), .val (.int (f0_v229 p4)), .val (.int (f0_v241 p4)), .val (.int (f0_v251 p5)), .val (.int (f0_v261 p5)), .val (.int (f0_s0_274 p5)), .val (.int (f0_s0_287 p5)), .val (.int (f0_s0_300 p5)), .val (.ref b60), .val (.ref b81), .val (.ref b112), .val (.ref b153), .val (.int (f0_v408 p1 p2 p3 p4 p5)), .unset, .unset, .unset, .unset] [(.int (f13 (1 : Int32) (f0_s0_274 p5) (f0_v151 p2) (f0_v175 p2) (f0_s0_287 p5) (f0_v184 p3) (f0_v208 p3) (f0_s0_300 p5) (f0_v217 p4) (f0_v241 p4)))])) _
          refine XS.iload X444.here hx rfl (hb hby at_473) rfl ?_
          exact k
        by_cases hc475 : (f13 (1 : Int32) (f0_s0_274 p5) (f0_v151 p2) (f0_v175 p2) (f0_s0_287 p5) (f0_v184 p3) (f0_v208 p3) (f0_s0_300 p5) (f0_v217 p4) (f0_v241 p4)) = (f0_v251 p5)
        · have pre92 : ∀ t, Steps p.tables e below (T444.setTop (mkF m 482 #[.val (.int p1), .val (.int p2), .val (.int p3), .val (.int p4), .val (.int p5), .val (.int ((p1 &&& (3 : Int32)) - (1 : Int32))), .val (.int (f0_v14 p1)), .val (.int (f0_v23 p1)), .val (.ref b6), .val (.ref b18), .val (.ref b37), .val (.int (f0_v151 p2)), .val (.int (f0_v163 p2)), .val (.int (f0_v175 p2)), .val (.int (f0_v184 p3)), .val (.int (f0_v196 p3)), .val (.int (f0_v208 p3)), .val (.int (f0_v217 p4)), .val (.int (f0_v229 p4)), .val (.int (f0_v241 p4)), .val (.int (f0_v251 p5)), .val (.int (f0_v261 p5)), .val (.int (f0_s0_274 p5)), .val (.int (f0_s0_287 p5)), .val (.int (f0_s0_300 p5)), .val (.ref b60), .val (.ref b81), .val (.ref b112), .val (.ref b153), .val (.int (f0_v408 p1 p2 p3 p4 p5)), .unset, .unset, .unset, .unset] [(.int (f0_v251 p5)), (.int (f0_v23 p1))])) t → Steps p.tables e below (s₁.setTop (entryFrame m #[(.int p1), (.int p2), (.int p3), (.int p4), (.int p5)] maxLocals)) t := by
            intro t k
            refine pre91 t ?_
            refine XS.icmpNo X444.here hx rfl (hb hby at_475) rfl (teq hc475).2 ?_
            refine XS.iload X444.here hx rfl (hb hby at_478) rfl ?_
            refine XS.iload X444.here hx rfl (hb hby at_480) rfl ?_
            exact k
          by_cases hc482 : (f0_v23 p1) = (f0_v251 p5)
          · obtain ⟨_, _, ⟨T445, L445, k445, n445⟩, -, X445, ⟨Lc445, hQ445, l445, y445, z445⟩, st445⟩ := Jvm.LawKit.callS X444 hx (y := (⟨"com/example/podflow/podflow/simulation/BallotVotePinLaw", "firstTo", "(IZIIZIIZII)I"⟩ : MethodName)) hown (mvT hZ (hw _ (List.mem_of_getElem? (i := 95) rfl))) (mvT hZ (hw _ (List.mem_of_getElem? (i := 96) rfl))) (mvT hZ (hw _ (List.mem_of_getElem? (i := 3) rfl))) (mvT hZ (hw _ (List.mem_of_getElem? (i := 97) rfl))) (by decide) (backOf (W := 0) (rm13 l Z a0 hw [] (2 : Int32) (f0_s0_274 p5) (f0_v151 p2) (f0_v175 p2) (f0_s0_287 p5) (f0_v184 p3) (f0_v208 p3) (f0_s0_300 p5) (f0_v217 p4) (f0_v241 p4) h401 n0 c402 ) hZ (hw _ (List.mem_of_getElem? (i := 97) rfl)) (hw _ (List.mem_of_getElem? (i := 3) rfl)) (by decide) (by decide)) (g := (mkF m 504 #[.val (.int p1), .val (.int p2), .val (.int p3), .val (.int p4), .val (.int p5), .val (.int ((p1 &&& (3 : Int32)) - (1 : Int32))), .val (.int (f0_v14 p1)), .val (.int (f0_v23 p1)), .val (.ref b6), .val (.ref b18), .val (.ref b37), .val (.int (f0_v151 p2)), .val (.int (f0_v163 p2)), .val (.int (f0_v175 p2)), .val (.int (f0_v184 p3)), .val (.int (f0_v196 p3)), .val (.int (f0_v208 p3)), .val (.int (f0_v217 p4)), .val (.int (f0_v229 p4)), .val (.int (f0_v241 p4)), .val (.int (f0_v251 p5)), .val (.int (f0_v261 p5)), .val (.int (f0_s0_274 p5)), .val (.int (f0_s0_287 p5)), .val (.int (f0_s0_300 p5)), .val (.ref b60), .val (.ref b81), .val (.ref b112), .val (.ref b153), .val (.int (f0_v408 p1 p2 p3 p4 p5)), .unset, .unset, .unset, .unset] [(.int (f0_v241 p4)), (.int (f0_v217 p4)), (.int (f0_s0_300 p5)), (.int (f0_v208 p3)), (.int (f0_v184 p3)), (.int (f0_s0_287 p5)), (.int (f0_v175 p2)), (.int (f0_v151 p2)), (.int (f0_s0_274 p5)), (.int (2 : Int32))])) rfl (by rw [hml]; rfl) (argsL := [(.int (2 : Int32)), (.int (f0_s0_274 p5)), (.int (f0_v151 p2)), (.int (f0_v175 p2)), (.int (f0_s0_287 p5)), (.int (f0_v184 p3)), (.int (f0_v208 p3)), (.int (f0_s0_300 p5)), (.int (f0_v217 p4)), (.int (f0_v241 p4))]) (rest := []) (lenOf pd_9 rfl) rfl (by show 2 * 0 + _ ≤ _; exact Nat.le_of_eq rfl) (hb hby at_504) (fun _ _ => ⟨rfl, e444, (by decide : 13 + 0 ≤ _), (by decide : 48 + 0 ≤ _)⟩)
            dsimp only [Pt.U, Pt.locs, Pt.cells, Pt.slots] at X445 l445 y445 z445 st445 hQ445
            subst l445 y445 z445
            obtain ⟨rfl, N445q, e445⟩ := hQ445
            have N445 := Fr.app N444 N445q
            have pre93 : ∀ t, Steps p.tables e below (T445.setTop (mkF m 509 #[.val (.int p1), .val (.int p2), .val (.int p3), .val (.int p4), .val (.int p5), .val (.int ((p1 &&& (3 : Int32)) - (1 : Int32))), .val (.int (f0_v14 p1)), .val (.int (f0_v23 p1)), .val (.ref b6), .val (.ref b18), .val (.ref b37), .val (.int (f0_v151 p2)), .val (.int (f0_v163 p2)), .val (.int (f0_v175 p2)), .val (.int (f0_v184 p3)), .val (.int (f0_v196 p3)), .val (.int (f0_v208 p3)), .val (.int (f0_v217 p4)), .val (.int (f0_v229 p4)), .val (.int (f0_v241 p4)), .val (.int (f0_v251 p5)), .val (.int (f0_v261 p5)), .val (.int (f0_s0_274 p5)), .val (.int (f0_s0_287 p5)), .val (.int (f0_s0_300 p5)), .val (.ref b60), .val (.ref b81), .val (.ref b112), .val (.ref b153), .val (.int (f0_v408 p1 p2 p3 p4 p5)), .unset, .unset, .unset, .unset] [(.int (f0_v251 p5)), (.int (f13 (2 : Int32) (f0_s0_274 p5) (f0_v151 p2) (f0_v175 p2) (f0_s0_287 p5) (f0_v184 p3) (f0_v208 p3) (f0_s0_300 p5) (f0_v217 p4) (f0_v241 p4)))])) t → Steps p.tables e below (s₁.setTop (entryFrame m #[(.int p1), (.int p2), (.int p3), (.int p4), (.int p5)] maxLocals)) t := by
              intro t k
              refine pre92 t ?_
              show Steps p.tables e below (T444.setTop (mkF m 482 #[.val (.int p1), .val (.int p2), .val (.int p3), .val (.int p4), .val (.int p5), .val (.int ((p1 &&& (3 : Int32)) - (1 : Int32))), .val (.int (f0_v14 p1)), .val (.int (f0_v23 p1)), .val (.ref b6), .val (.ref b18), .val (.ref b37), .val (.int (f0_v151 p2)), .val (.int (f0_v163 p2)), .val (.int (f0_v175 p2)), .val (.int (f0_v184 p3)), .val (.int (f0_v196 p3)), .val (.int (f0_v208 p3)), .val (.int (f0_v217 p4)), .val (.int (f0_v229 p4)), .val (.int (f0_v241 p4)), .val (.int (f0_v251 p5)), .val (.int (f0_v261 p5)), .val (.int (f0_s0_274 p5)), .val (.int (f0_s0_287 p5)), .val (.int (f0_s0_300 p5)), .val (.ref b60), .val (.ref b81), .val (.ref b112), .val (.ref b153), .val (.int (f0_v408 p1 p2 p3 p4 p5)), .unset, .unset, .unset, .unset] [(.int (f0_v251 p5)), (.int (f0_v23 p1))])) _
              refine XS.icmpNo X444.here hx rfl (hb hby at_482) rfl (teq hc482).2 ?_
              refine XS.iconst X444.here hx rfl (hb hby at_485) ?_
              refine XS.iload X444.here hx rfl (hb hby at_486) rfl ?_
              refine XS.iload X444.here hx rfl (hb hby at_488) rfl ?_
              show Steps p.tables e below (T444.setTop (mkF m 490 #[.val (.int p1), .val (.int p2), .val (.int p3), .val (.int p4), .val (.int p5), .val (.int ((p1 &&& (3 : Int32)) - (1 : Int32))), .val (.int (f0_v14 p1)), .val (.int (f0_v23 p1)), .val (.ref b6), .val (.ref b18), .val (.ref b37), .val (.int (f0_v151 p2)), .val (.int (f0_v163 p2)), .val (.int (f0_v175 p2)), .val (.int (f0_v184 p3)), .val (.int (f0_v196 p3)), .val (.int (f0_v208 p3)), .val (.int (f0_v217 p4)), .val (.int (f0_v229 p4)), .val (.int (f0_v241 p4)), .val (.int (f0_v251 p5)), .val (.int (f0_v261 p5)), .val (.int (f0_s0_274 p5)), .val (.int (f0_s0_287 p5)), .val (.int (f0_s0_300 p5)), .val (.ref b60), .val (.ref b81), .val (.ref b112), .val (.ref b153), .val (.int (f0_v408 p1 p2 p3 p4 p5)), .unset, .unset, .unset, .unset] [(.int (f0_v151 p2)), (.int (f0_s0_274 p5)), (.int (2 : Int32))])) _
              refine XS.iload X444.here hx rfl (hb hby at_490) rfl ?_
              refine XS.iload X444.here hx rfl (hb hby at_492) rfl ?_
              refine XS.iload X444.here hx rfl (hb hby at_494) rfl ?_
              refine XS.iload X444.here hx rfl (hb hby at_496) rfl ?_
              show Steps p.tables e below (T444.setTop (mkF m 498 #[.val (.int p1), .val (.int p2), .val (.int p3), .val (.int p4), .val (.int p5), .val (.int ((p1 &&& (3 : Int32)) - (1 : Int32))), .val (.int (f0_v14 p1)), .val (.int (f0_v23 p1)), .val (.ref b6), .val (.ref b18), .val (.ref b37), .val (.int (f0_v151 p2)), .val (.int (f0_v163 p2)), .val (.int (f0_v175 p2)), .val (.int (f0_v184 p3)), .val (.int (f0_v196 p3)), .val (.int (f0_v208 p3)), .val (.int (f0_v217 p4)), .val (.int (f0_v229 p4)), .val (.int (f0_v241 p4)), .val (.int (f0_v251 p5)), .val (.int (f0_v261 p5)), .val (.int (f0_s0_274 p5)), .val (.int (f0_s0_287 p5)), .val (.int (f0_s0_300 p5)), .val (.ref b60), .val (.ref b81), .val (.ref b112), .val (.ref b153), .val (.int (f0_v408 p1 p2 p3 p4 p5)), .unset, .unset, .unset, .unset] [(.int (f0_v208 p3)), (.int (f0_v184 p3)), (.int (f0_s0_287 p5)), (.int (f0_v175 p2)), (.int (f0_v151 p2)), (.int (f0_s0_274 p5)), (.int (2 : Int32))])) _
              refine XS.iload X444.here hx rfl (hb hby at_498) rfl ?_
              refine XS.iload X444.here hx rfl (hb hby at_500) rfl ?_
              refine XS.iload X444.here hx rfl (hb hby at_502) rfl ?_
              show Steps p.tables e below (T444.setTop (mkF m 504 #[.val (.int p1), .val (.int p2), .val (.int p3), .val (.int p4), .val (.int p5), .val (.int ((p1 &&& (3 : Int32)) - (1 : Int32))), .val (.int (f0_v14 p1)), .val (.int (f0_v23 p1)), .val (.ref b6), .val (.ref b18), .val (.ref b37), .val (.int (f0_v151 p2)), .val (.int (f0_v163 p2)), .val (.int (f0_v175 p2)), .val (.int (f0_v184 p3)), .val (.int (f0_v196 p3)), .val (.int (f0_v208 p3)), .val (.int (f0_v217 p4)), .val (.int (f0_v229 p4)), .val (.int (f0_v241 p4)), .val (.int (f0_v251 p5)), .val (.int (f0_v261 p5)), .val (.int (f0_s0_274 p5)), .val (.int (f0_s0_287 p5)), .val (.int (f0_s0_300 p5)), .val (.ref b60), .val (.ref b81), .val (.ref b112), .val (.ref b153), .val (.int (f0_v408 p1 p2 p3 p4 p5)), .unset, .unset, .unset, .unset] [(.int (f0_v241 p4)), (.int (f0_v217 p4)), (.int (f0_s0_300 p5)), (.int (f0_v208 p3)), (.int (f0_v184 p3)), (.int (f0_s0_287 p5)), (.int (f0_v175 p2)), (.int (f0_v151 p2)), (.int (f0_s0_274 p5)), (.int (2 : Int32))])) _
              refine st445 _ ?_
              show Steps p.tables e below (T445.setTop (mkF m 507 #[.val (.int p1), .val (.int p2), .val (.int p3), .val (.int p4), .val (.int p5), .val (.int ((p1 &&& (3 : Int32)) - (1 : Int32))), .val (.int (f0_v14 p1)), .val (.int (f0_v23 p1)), .val (.ref b6), .val (.ref b18), .val (.ref b37), .val (.int (f0_v151 p2)), .val (.int (f0_v163 p2)), .val (.int (f0_v175 p2)), .val (.int (f0_v184 p3)), .val (.int (f0_v196 p3)), .val (.int (f0_v208 p3)), .val (.int (f0_v217 p4)), .val (.int (f0_v229 p4)), .val (.int (f0_v241 p4)), .val (.int (f0_v251 p5)), .val (.int (f0_v261 p5)), .val (.int (f0_s0_274 p5)), .val (.int (f0_s0_287 p5)), .val (.int (f0_s0_300 p5)), .val (.ref b60), .val (.ref b81), .val (.ref b112), .val (.ref b153), .val (.int (f0_v408 p1 p2 p3 p4 p5)), .unset, .unset, .unset, .unset] [(.int (f13 (2 : Int32) (f0_s0_274 p5) (f0_v151 p2) (f0_v175 p2) (f0_s0_287 p5) (f0_v184 p3) (f0_v208 p3) (f0_s0_300 p5) (f0_v217 p4) (f0_v241 p4)))])) _
              refine XS.iload X445.here hx rfl (hb hby at_507) rfl ?_
              exact k
            by_cases hc509 : (f13 (2 : Int32) (f0_s0_274 p5) (f0_v151 p2) (f0_v175 p2) (f0_s0_287 p5) (f0_v184 p3) (f0_v208 p3) (f0_s0_300 p5) (f0_v217 p4) (f0_v241 p4)) = (f0_v251 p5)
            · have eq94 := (show (f0_s0_517 p1 p2 p3 p4 p5) = (1 : Int32) from by unfold f0_s0_517; simp only [if_neg hc414, if_pos hc448, if_pos hc475, if_pos hc482, if_pos hc509])
              refine ⟨T445, _, X445, e445, N445, fun t k => ?_⟩
              try rw [eq94] at k
              refine pre93 t ?_
              refine XS.icmpNo X445.here hx rfl (hb hby at_509) rfl (teq hc509).2 ?_
              refine XS.iconst X445.here hx rfl (hb hby at_512) ?_
              refine XS.goto X445.here hx rfl (pc0 := 513) (pc' := 517) rfl (hb hby at_513) (by decide) (by decide) ?_
              exact k
            · have eq95 := (show (f0_s0_517 p1 p2 p3 p4 p5) = (0 : Int32) from by unfold f0_s0_517; simp only [if_neg hc414, if_pos hc448, if_pos hc475, if_pos hc482, if_neg hc509])
              refine ⟨T445, _, X445, e445, N445, fun t k => ?_⟩
              try rw [eq95] at k
              refine pre93 t ?_
              show Steps p.tables e below (T445.setTop (mkF m 509 #[.val (.int p1), .val (.int p2), .val (.int p3), .val (.int p4), .val (.int p5), .val (.int ((p1 &&& (3 : Int32)) - (1 : Int32))), .val (.int (f0_v14 p1)), .val (.int (f0_v23 p1)), .val (.ref b6), .val (.ref b18), .val (.ref b37), .val (.int (f0_v151 p2)), .val (.int (f0_v163 p2)), .val (.int (f0_v175 p2)), .val (.int (f0_v184 p3)), .val (.int (f0_v196 p3)), .val (.int (f0_v208 p3)), .val (.int (f0_v217 p4)), .val (.int (f0_v229 p4)), .val (.int (f0_v241 p4)), .val (.int (f0_v251 p5)), .val (.int (f0_v261 p5)), .val (.int (f0_s0_274 p5)), .val (.int (f0_s0_287 p5)), .val (.int (f0_s0_300 p5)), .val (.ref b60), .val (.ref b81), .val (.ref b112), .val (.ref b153), .val (.int (f0_v408 p1 p2 p3 p4 p5)), .unset, .unset, .unset, .unset] [(.int (f0_v251 p5)), (.int (f13 (2 : Int32) (f0_s0_274 p5) (f0_v151 p2) (f0_v175 p2) (f0_s0_287 p5) (f0_v184 p3) (f0_v208 p3) (f0_s0_300 p5) (f0_v217 p4) (f0_v241 p4)))])) _
              refine XS.icmpYes X445.here hx rfl (pc0 := 509) (pc' := 516) rfl (hb hby at_509) rfl (feq hc509).2 (by decide) (by decide) ?_
              refine XS.iconst X445.here hx rfl (hb hby at_516) ?_
              exact k
          · have eq96 := (show (f0_s0_517 p1 p2 p3 p4 p5) = (1 : Int32) from by unfold f0_s0_517; simp only [if_neg hc414, if_pos hc448, if_pos hc475, if_neg hc482])
            refine ⟨T444, _, X444, e444, N444, fun t k => ?_⟩
            try rw [eq96] at k
            refine pre92 t ?_
            refine XS.icmpYes X444.here hx rfl (pc0 := 482) (pc' := 512) rfl (hb hby at_482) rfl (feq hc482).2 (by decide) (by decide) ?_
            refine XS.iconst X444.here hx rfl (hb hby at_512) ?_
            show Steps p.tables e below (T444.setTop (mkF m 513 #[.val (.int p1), .val (.int p2), .val (.int p3), .val (.int p4), .val (.int p5), .val (.int ((p1 &&& (3 : Int32)) - (1 : Int32))), .val (.int (f0_v14 p1)), .val (.int (f0_v23 p1)), .val (.ref b6), .val (.ref b18), .val (.ref b37), .val (.int (f0_v151 p2)), .val (.int (f0_v163 p2)), .val (.int (f0_v175 p2)), .val (.int (f0_v184 p3)), .val (.int (f0_v196 p3)), .val (.int (f0_v208 p3)), .val (.int (f0_v217 p4)), .val (.int (f0_v229 p4)), .val (.int (f0_v241 p4)), .val (.int (f0_v251 p5)), .val (.int (f0_v261 p5)), .val (.int (f0_s0_274 p5)), .val (.int (f0_s0_287 p5)), .val (.int (f0_s0_300 p5)), .val (.ref b60), .val (.ref b81), .val (.ref b112), .val (.ref b153), .val (.int (f0_v408 p1 p2 p3 p4 p5)), .unset, .unset, .unset, .unset] [(.int (1 : Int32))])) _
            refine XS.goto X444.here hx rfl (pc0 := 513) (pc' := 517) rfl (hb hby at_513) (by decide) (by decide) ?_
            exact k
        · have eq97 := (show (f0_s0_517 p1 p2 p3 p4 p5) = (0 : Int32) from by unfold f0_s0_517; simp only [if_neg hc414, if_pos hc448, if_neg hc475])
          refine ⟨T444, _, X444, e444, N444, fun t k => ?_⟩
          try rw [eq97] at k
          refine pre91 t ?_
          refine XS.icmpYes X444.here hx rfl (pc0 := 475) (pc' := 516) rfl (hb hby at_475) rfl (feq hc475).2 (by decide) (by decide) ?_
          refine XS.iconst X444.here hx rfl (hb hby at_516) ?_
          exact k
      · have pre98 : ∀ t, Steps p.tables e below (T439.setTop (mkF m 482 #[.val (.int p1), .val (.int p2), .val (.int p3), .val (.int p4), .val (.int p5), .val (.int ((p1 &&& (3 : Int32)) - (1 : Int32))), .val (.int (f0_v14 p1)), .val (.int (f0_v23 p1)), .val (.ref b6), .val (.ref b18), .val (.ref b37), .val (.int (f0_v151 p2)), .val (.int (f0_v163 p2)), .val (.int (f0_v175 p2)), .val (.int (f0_v184 p3)), .val (.int (f0_v196 p3)), .val (.int (f0_v208 p3)), .val (.int (f0_v217 p4)), .val (.int (f0_v229 p4)), .val (.int (f0_v241 p4)), .val (.int (f0_v251 p5)), .val (.int (f0_v261 p5)), .val (.int (f0_s0_274 p5)), .val (.int (f0_s0_287 p5)), .val (.int (f0_s0_300 p5)), .val (.ref b60), .val (.ref b81), .val (.ref b112), .val (.ref b153), .val (.int (f0_v408 p1 p2 p3 p4 p5)), .unset, .unset, .unset, .unset] [(.int (f0_v251 p5)), (.int (f0_v23 p1))])) t → Steps p.tables e below (s₁.setTop (entryFrame m #[(.int p1), (.int p2), (.int p3), (.int p4), (.int p5)] maxLocals)) t := by
          intro t k
          refine pre90 t ?_
          refine XS.icmpYes X439.here hx rfl (pc0 := 448) (pc' := 478) rfl (hb hby at_448) rfl (feq hc448).2 (by decide) (by decide) ?_
          show Steps p.tables e below (T439.setTop (mkF m 478 #[.val (.int p1), .val (.int p2), .val (.int p3), .val (.int p4), .val (.int p5), .val (.int ((p1 &&& (3 : Int32)) - (1 : Int32))), .val (.int (f0_v14 p1)), .val (.int (f0_v23 p1)), .val (.ref b6), .val (.ref b18), .val (.ref b37), .val (.int (f0_v151 p2)), .val (.int (f0_v163 p2)), .val (.int (f0_v175 p2)), .val (.int (f0_v184 p3)), .val (.int (f0_v196 p3)), .val (.int (f0_v208 p3)), .val (.int (f0_v217 p4)), .val (.int (f0_v229 p4)), .val (.int (f0_v241 p4)), .val (.int (f0_v251 p5)), .val (.int (f0_v261 p5)), .val (.int (f0_s0_274 p5)), .val (.int (f0_s0_287 p5)), .val (.int (f0_s0_300 p5)), .val (.ref b60), .val (.ref b81), .val (.ref b112), .val (.ref b153), .val (.int (f0_v408 p1 p2 p3 p4 p5)), .unset, .unset, .unset, .unset] [])) _
          refine XS.iload X439.here hx rfl (hb hby at_478) rfl ?_
          refine XS.iload X439.here hx rfl (hb hby at_480) rfl ?_
          exact k
        by_cases hc482 : (f0_v23 p1) = (f0_v251 p5)
        · obtain ⟨_, _, ⟨T446, L446, k446, n446⟩, -, X446, ⟨Lc446, hQ446, l446, y446, z446⟩, st446⟩ := Jvm.LawKit.callS X439 hx (y := (⟨"com/example/podflow/podflow/simulation/BallotVotePinLaw", "firstTo", "(IZIIZIIZII)I"⟩ : MethodName)) hown (mvT hZ (hw _ (List.mem_of_getElem? (i := 95) rfl))) (mvT hZ (hw _ (List.mem_of_getElem? (i := 96) rfl))) (mvT hZ (hw _ (List.mem_of_getElem? (i := 3) rfl))) (mvT hZ (hw _ (List.mem_of_getElem? (i := 97) rfl))) (by decide) (backOf (W := 0) (rm13 l Z a0 hw [] (2 : Int32) (f0_s0_274 p5) (f0_v151 p2) (f0_v175 p2) (f0_s0_287 p5) (f0_v184 p3) (f0_v208 p3) (f0_s0_300 p5) (f0_v217 p4) (f0_v241 p4) h401 n0 c402 ) hZ (hw _ (List.mem_of_getElem? (i := 97) rfl)) (hw _ (List.mem_of_getElem? (i := 3) rfl)) (by decide) (by decide)) (g := (mkF m 504 #[.val (.int p1), .val (.int p2), .val (.int p3), .val (.int p4), .val (.int p5), .val (.int ((p1 &&& (3 : Int32)) - (1 : Int32))), .val (.int (f0_v14 p1)), .val (.int (f0_v23 p1)), .val (.ref b6), .val (.ref b18), .val (.ref b37), .val (.int (f0_v151 p2)), .val (.int (f0_v163 p2)), .val (.int (f0_v175 p2)), .val (.int (f0_v184 p3)), .val (.int (f0_v196 p3)), .val (.int (f0_v208 p3)), .val (.int (f0_v217 p4)), .val (.int (f0_v229 p4)), .val (.int (f0_v241 p4)), .val (.int (f0_v251 p5)), .val (.int (f0_v261 p5)), .val (.int (f0_s0_274 p5)), .val (.int (f0_s0_287 p5)), .val (.int (f0_s0_300 p5)), .val (.ref b60), .val (.ref b81), .val (.ref b112), .val (.ref b153), .val (.int (f0_v408 p1 p2 p3 p4 p5)), .unset, .unset, .unset, .unset] [(.int (f0_v241 p4)), (.int (f0_v217 p4)), (.int (f0_s0_300 p5)), (.int (f0_v208 p3)), (.int (f0_v184 p3)), (.int (f0_s0_287 p5)), (.int (f0_v175 p2)), (.int (f0_v151 p2)), (.int (f0_s0_274 p5)), (.int (2 : Int32))])) rfl (by rw [hml]; rfl) (argsL := [(.int (2 : Int32)), (.int (f0_s0_274 p5)), (.int (f0_v151 p2)), (.int (f0_v175 p2)), (.int (f0_s0_287 p5)), (.int (f0_v184 p3)), (.int (f0_v208 p3)), (.int (f0_s0_300 p5)), (.int (f0_v217 p4)), (.int (f0_v241 p4))]) (rest := []) (lenOf pd_9 rfl) rfl (by show 2 * 0 + _ ≤ _; exact Nat.le_of_eq rfl) (hb hby at_504) (fun _ _ => ⟨rfl, e439, (by decide : 13 + 0 ≤ _), (by decide : 48 + 0 ≤ _)⟩)
          dsimp only [Pt.U, Pt.locs, Pt.cells, Pt.slots] at X446 l446 y446 z446 st446 hQ446
          subst l446 y446 z446
          obtain ⟨rfl, N446q, e446⟩ := hQ446
          have N446 := Fr.app N439 N446q
          have pre99 : ∀ t, Steps p.tables e below (T446.setTop (mkF m 509 #[.val (.int p1), .val (.int p2), .val (.int p3), .val (.int p4), .val (.int p5), .val (.int ((p1 &&& (3 : Int32)) - (1 : Int32))), .val (.int (f0_v14 p1)), .val (.int (f0_v23 p1)), .val (.ref b6), .val (.ref b18), .val (.ref b37), .val (.int (f0_v151 p2)), .val (.int (f0_v163 p2)), .val (.int (f0_v175 p2)), .val (.int (f0_v184 p3)), .val (.int (f0_v196 p3)), .val (.int (f0_v208 p3)), .val (.int (f0_v217 p4)), .val (.int (f0_v229 p4)), .val (.int (f0_v241 p4)), .val (.int (f0_v251 p5)), .val (.int (f0_v261 p5)), .val (.int (f0_s0_274 p5)), .val (.int (f0_s0_287 p5)), .val (.int (f0_s0_300 p5)), .val (.ref b60), .val (.ref b81), .val (.ref b112), .val (.ref b153), .val (.int (f0_v408 p1 p2 p3 p4 p5)), .unset, .unset, .unset, .unset] [(.int (f0_v251 p5)), (.int (f13 (2 : Int32) (f0_s0_274 p5) (f0_v151 p2) (f0_v175 p2) (f0_s0_287 p5) (f0_v184 p3) (f0_v208 p3) (f0_s0_300 p5) (f0_v217 p4) (f0_v241 p4)))])) t → Steps p.tables e below (s₁.setTop (entryFrame m #[(.int p1), (.int p2), (.int p3), (.int p4), (.int p5)] maxLocals)) t := by
            intro t k
            refine pre98 t ?_
            refine XS.icmpNo X439.here hx rfl (hb hby at_482) rfl (teq hc482).2 ?_
            refine XS.iconst X439.here hx rfl (hb hby at_485) ?_
            show Steps p.tables e below (T439.setTop (mkF m 486 #[.val (.int p1), .val (.int p2), .val (.int p3), .val (.int p4), .val (.int p5), .val (.int ((p1 &&& (3 : Int32)) - (1 : Int32))), .val (.int (f0_v14 p1)), .val (.int (f0_v23 p1)), .val (.ref b6), .val (.ref b18), .val (.ref b37), .val (.int (f0_v151 p2)), .val (.int (f0_v163 p2)), .val (.int (f0_v175 p2)), .val (.int (f0_v184 p3)), .val (.int (f0_v196 p3)), .val (.int (f0_v208 p3)), .val (.int (f0_v217 p4)), .val (.int (f0_v229 p4)), .val (.int (f0_v241 p4)), .val (.int (f0_v251 p5)), .val (.int (f0_v261 p5)), .val (.int (f0_s0_274 p5)), .val (.int (f0_s0_287 p5)), .val (.int (f0_s0_300 p5)), .val (.ref b60), .val (.ref b81), .val (.ref b112), .val (.ref b153), .val (.int (f0_v408 p1 p2 p3 p4 p5)), .unset, .unset, .unset, .unset] [(.int (2 : Int32))])) _
            refine XS.iload X439.here hx rfl (hb hby at_486) rfl ?_
            refine XS.iload X439.here hx rfl (hb hby at_488) rfl ?_
            refine XS.iload X439.here hx rfl (hb hby at_490) rfl ?_
            refine XS.iload X439.here hx rfl (hb hby at_492) rfl ?_
            show Steps p.tables e below (T439.setTop (mkF m 494 #[.val (.int p1), .val (.int p2), .val (.int p3), .val (.int p4), .val (.int p5), .val (.int ((p1 &&& (3 : Int32)) - (1 : Int32))), .val (.int (f0_v14 p1)), .val (.int (f0_v23 p1)), .val (.ref b6), .val (.ref b18), .val (.ref b37), .val (.int (f0_v151 p2)), .val (.int (f0_v163 p2)), .val (.int (f0_v175 p2)), .val (.int (f0_v184 p3)), .val (.int (f0_v196 p3)), .val (.int (f0_v208 p3)), .val (.int (f0_v217 p4)), .val (.int (f0_v229 p4)), .val (.int (f0_v241 p4)), .val (.int (f0_v251 p5)), .val (.int (f0_v261 p5)), .val (.int (f0_s0_274 p5)), .val (.int (f0_s0_287 p5)), .val (.int (f0_s0_300 p5)), .val (.ref b60), .val (.ref b81), .val (.ref b112), .val (.ref b153), .val (.int (f0_v408 p1 p2 p3 p4 p5)), .unset, .unset, .unset, .unset] [(.int (f0_s0_287 p5)), (.int (f0_v175 p2)), (.int (f0_v151 p2)), (.int (f0_s0_274 p5)), (.int (2 : Int32))])) _
            refine XS.iload X439.here hx rfl (hb hby at_494) rfl ?_
            refine XS.iload X439.here hx rfl (hb hby at_496) rfl ?_
            refine XS.iload X439.here hx rfl (hb hby at_498) rfl ?_
            refine XS.iload X439.here hx rfl (hb hby at_500) rfl ?_
            show Steps p.tables e below (T439.setTop (mkF m 502 #[.val (.int p1), .val (.int p2), .val (.int p3), .val (.int p4), .val (.int p5), .val (.int ((p1 &&& (3 : Int32)) - (1 : Int32))), .val (.int (f0_v14 p1)), .val (.int (f0_v23 p1)), .val (.ref b6), .val (.ref b18), .val (.ref b37), .val (.int (f0_v151 p2)), .val (.int (f0_v163 p2)), .val (.int (f0_v175 p2)), .val (.int (f0_v184 p3)), .val (.int (f0_v196 p3)), .val (.int (f0_v208 p3)), .val (.int (f0_v217 p4)), .val (.int (f0_v229 p4)), .val (.int (f0_v241 p4)), .val (.int (f0_v251 p5)), .val (.int (f0_v261 p5)), .val (.int (f0_s0_274 p5)), .val (.int (f0_s0_287 p5)), .val (.int (f0_s0_300 p5)), .val (.ref b60), .val (.ref b81), .val (.ref b112), .val (.ref b153), .val (.int (f0_v408 p1 p2 p3 p4 p5)), .unset, .unset, .unset, .unset] [(.int (f0_v217 p4)), (.int (f0_s0_300 p5)), (.int (f0_v208 p3)), (.int (f0_v184 p3)), (.int (f0_s0_287 p5)), (.int (f0_v175 p2)), (.int (f0_v151 p2)), (.int (f0_s0_274 p5)), (.int (2 : Int32))])) _
            refine XS.iload X439.here hx rfl (hb hby at_502) rfl ?_
            show Steps p.tables e below (T439.setTop (mkF m 504 #[.val (.int p1), .val (.int p2), .val (.int p3), .val (.int p4), .val (.int p5), .val (.int ((p1 &&& (3 : Int32)) - (1 : Int32))), .val (.int (f0_v14 p1)), .val (.int (f0_v23 p1)), .val (.ref b6), .val (.ref b18), .val (.ref b37), .val (.int (f0_v151 p2)), .val (.int (f0_v163 p2)), .val (.int (f0_v175 p2)), .val (.int (f0_v184 p3)), .val (.int (f0_v196 p3)), .val (.int (f0_v208 p3)), .val (.int (f0_v217 p4)), .val (.int (f0_v229 p4)), .val (.int (f0_v241 p4)), .val (.int (f0_v251 p5)), .val (.int (f0_v261 p5)), .val (.int (f0_s0_274 p5)), .val (.int (f0_s0_287 p5)), .val (.int (f0_s0_300 p5)), .val (.ref b60), .val (.ref b81), .val (.ref b112), .val (.ref b153), .val (.int (f0_v408 p1 p2 p3 p4 p5)), .unset, .unset, .unset, .unset] [(.int (f0_v241 p4)), (.int (f0_v217 p4)), (.int (f0_s0_300 p5)), (.int (f0_v208 p3)), (.int (f0_v184 p3)), (.int (f0_s0_287 p5)), (.int (f0_v175 p2)), (.int (f0_v151 p2)), (.int (f0_s0_274 p5)), (.int (2 : Int32))])) _
            refine st446 _ ?_
            show Steps p.tables e below (T446.setTop (mkF m 507 #[.val (.int p1), .val (.int p2), .val (.int p3), .val (.int p4), .val (.int p5), .val (.int ((p1 &&& (3 : Int32)) - (1 : Int32))), .val (.int (f0_v14 p1)), .val (.int (f0_v23 p1)), .val (.ref b6), .val (.ref b18), .val (.ref b37), .val (.int (f0_v151 p2)), .val (.int (f0_v163 p2)), .val (.int (f0_v175 p2)), .val (.int (f0_v184 p3)), .val (.int (f0_v196 p3)), .val (.int (f0_v208 p3)), .val (.int (f0_v217 p4)), .val (.int (f0_v229 p4)), .val (.int (f0_v241 p4)), .val (.int (f0_v251 p5)), .val (.int (f0_v261 p5)), .val (.int (f0_s0_274 p5)), .val (.int (f0_s0_287 p5)), .val (.int (f0_s0_300 p5)), .val (.ref b60), .val (.ref b81), .val (.ref b112), .val (.ref b153), .val (.int (f0_v408 p1 p2 p3 p4 p5)), .unset, .unset, .unset, .unset] [(.int (f13 (2 : Int32) (f0_s0_274 p5) (f0_v151 p2) (f0_v175 p2) (f0_s0_287 p5) (f0_v184 p3) (f0_v208 p3) (f0_s0_300 p5) (f0_v217 p4) (f0_v241 p4)))])) _
            refine XS.iload X446.here hx rfl (hb hby at_507) rfl ?_
            exact k
          by_cases hc509 : (f13 (2 : Int32) (f0_s0_274 p5) (f0_v151 p2) (f0_v175 p2) (f0_s0_287 p5) (f0_v184 p3) (f0_v208 p3) (f0_s0_300 p5) (f0_v217 p4) (f0_v241 p4)) = (f0_v251 p5)
          · have eq100 := (show (f0_s0_517 p1 p2 p3 p4 p5) = (1 : Int32) from by unfold f0_s0_517; simp only [if_neg hc414, if_neg hc448, if_pos hc482, if_pos hc509])
            refine ⟨T446, _, X446, e446, N446, fun t k => ?_⟩
            try rw [eq100] at k
            refine pre99 t ?_
            refine XS.icmpNo X446.here hx rfl (hb hby at_509) rfl (teq hc509).2 ?_
            refine XS.iconst X446.here hx rfl (hb hby at_512) ?_
            refine XS.goto X446.here hx rfl (pc0 := 513) (pc' := 517) rfl (hb hby at_513) (by decide) (by decide) ?_
            exact k
          · have eq101 := (show (f0_s0_517 p1 p2 p3 p4 p5) = (0 : Int32) from by unfold f0_s0_517; simp only [if_neg hc414, if_neg hc448, if_pos hc482, if_neg hc509])
            refine ⟨T446, _, X446, e446, N446, fun t k => ?_⟩
            try rw [eq101] at k
            refine pre99 t ?_
            show Steps p.tables e below (T446.setTop (mkF m 509 #[.val (.int p1), .val (.int p2), .val (.int p3), .val (.int p4), .val (.int p5), .val (.int ((p1 &&& (3 : Int32)) - (1 : Int32))), .val (.int (f0_v14 p1)), .val (.int (f0_v23 p1)), .val (.ref b6), .val (.ref b18), .val (.ref b37), .val (.int (f0_v151 p2)), .val (.int (f0_v163 p2)), .val (.int (f0_v175 p2)), .val (.int (f0_v184 p3)), .val (.int (f0_v196 p3)), .val (.int (f0_v208 p3)), .val (.int (f0_v217 p4)), .val (.int (f0_v229 p4)), .val (.int (f0_v241 p4)), .val (.int (f0_v251 p5)), .val (.int (f0_v261 p5)), .val (.int (f0_s0_274 p5)), .val (.int (f0_s0_287 p5)), .val (.int (f0_s0_300 p5)), .val (.ref b60), .val (.ref b81), .val (.ref b112), .val (.ref b153), .val (.int (f0_v408 p1 p2 p3 p4 p5)), .unset, .unset, .unset, .unset] [(.int (f0_v251 p5)), (.int (f13 (2 : Int32) (f0_s0_274 p5) (f0_v151 p2) (f0_v175 p2) (f0_s0_287 p5) (f0_v184 p3) (f0_v208 p3) (f0_s0_300 p5) (f0_v217 p4) (f0_v241 p4)))])) _
            refine XS.icmpYes X446.here hx rfl (pc0 := 509) (pc' := 516) rfl (hb hby at_509) rfl (feq hc509).2 (by decide) (by decide) ?_
            refine XS.iconst X446.here hx rfl (hb hby at_516) ?_
            exact k
        · have eq102 := (show (f0_s0_517 p1 p2 p3 p4 p5) = (1 : Int32) from by unfold f0_s0_517; simp only [if_neg hc414, if_neg hc448, if_neg hc482])
          refine ⟨T439, _, X439, e439, N439, fun t k => ?_⟩
          try rw [eq102] at k
          refine pre98 t ?_
          refine XS.icmpYes X439.here hx rfl (pc0 := 482) (pc' := 512) rfl (hb hby at_482) rfl (feq hc482).2 (by decide) (by decide) ?_
          refine XS.iconst X439.here hx rfl (hb hby at_512) ?_
          show Steps p.tables e below (T439.setTop (mkF m 513 #[.val (.int p1), .val (.int p2), .val (.int p3), .val (.int p4), .val (.int p5), .val (.int ((p1 &&& (3 : Int32)) - (1 : Int32))), .val (.int (f0_v14 p1)), .val (.int (f0_v23 p1)), .val (.ref b6), .val (.ref b18), .val (.ref b37), .val (.int (f0_v151 p2)), .val (.int (f0_v163 p2)), .val (.int (f0_v175 p2)), .val (.int (f0_v184 p3)), .val (.int (f0_v196 p3)), .val (.int (f0_v208 p3)), .val (.int (f0_v217 p4)), .val (.int (f0_v229 p4)), .val (.int (f0_v241 p4)), .val (.int (f0_v251 p5)), .val (.int (f0_v261 p5)), .val (.int (f0_s0_274 p5)), .val (.int (f0_s0_287 p5)), .val (.int (f0_s0_300 p5)), .val (.ref b60), .val (.ref b81), .val (.ref b112), .val (.ref b153), .val (.int (f0_v408 p1 p2 p3 p4 p5)), .unset, .unset, .unset, .unset] [(.int (1 : Int32))])) _
          refine XS.goto X439.here hx rfl (pc0 := 513) (pc' := 517) rfl (hb hby at_513) (by decide) (by decide) ?_
          exact k
  have pre103 : ∀ t, Steps p.tables e below (T447.setTop (mkF m 524 #[.val (.int p1), .val (.int p2), .val (.int p3), .val (.int p4), .val (.int p5), .val (.int ((p1 &&& (3 : Int32)) - (1 : Int32))), .val (.int (f0_v14 p1)), .val (.int (f0_v23 p1)), .val (.ref b6), .val (.ref b18), .val (.ref b37), .val (.int (f0_v151 p2)), .val (.int (f0_v163 p2)), .val (.int (f0_v175 p2)), .val (.int (f0_v184 p3)), .val (.int (f0_v196 p3)), .val (.int (f0_v208 p3)), .val (.int (f0_v217 p4)), .val (.int (f0_v229 p4)), .val (.int (f0_v241 p4)), .val (.int (f0_v251 p5)), .val (.int (f0_v261 p5)), .val (.int (f0_s0_274 p5)), .val (.int (f0_s0_287 p5)), .val (.int (f0_s0_300 p5)), .val (.ref b60), .val (.ref b81), .val (.ref b112), .val (.ref b153), .val (.int (f0_v408 p1 p2 p3 p4 p5)), .val (.int (f0_s0_517 p1 p2 p3 p4 p5)), .val (.int (-1 : Int32)), .unset, .unset] [(.int (f0_s0_300 p5))])) t → Steps p.tables e below (s₁.setTop (entryFrame m #[(.int p1), (.int p2), (.int p3), (.int p4), (.int p5)] maxLocals)) t := by
    intro t k
    refine pre74 t ?_
    refine XS.istore X447.here hx rfl (hb hby at_517) rfl (l' := #[.val (.int p1), .val (.int p2), .val (.int p3), .val (.int p4), .val (.int p5), .val (.int ((p1 &&& (3 : Int32)) - (1 : Int32))), .val (.int (f0_v14 p1)), .val (.int (f0_v23 p1)), .val (.ref b6), .val (.ref b18), .val (.ref b37), .val (.int (f0_v151 p2)), .val (.int (f0_v163 p2)), .val (.int (f0_v175 p2)), .val (.int (f0_v184 p3)), .val (.int (f0_v196 p3)), .val (.int (f0_v208 p3)), .val (.int (f0_v217 p4)), .val (.int (f0_v229 p4)), .val (.int (f0_v241 p4)), .val (.int (f0_v251 p5)), .val (.int (f0_v261 p5)), .val (.int (f0_s0_274 p5)), .val (.int (f0_s0_287 p5)), .val (.int (f0_s0_300 p5)), .val (.ref b60), .val (.ref b81), .val (.ref b112), .val (.ref b153), .val (.int (f0_v408 p1 p2 p3 p4 p5)), .val (.int (f0_s0_517 p1 p2 p3 p4 p5)), .unset, .unset, .unset]) rfl ?_
    refine XS.iconst X447.here hx rfl (hb hby at_519) ?_
    refine XS.istore X447.here hx rfl (hb hby at_520) rfl (l' := #[.val (.int p1), .val (.int p2), .val (.int p3), .val (.int p4), .val (.int p5), .val (.int ((p1 &&& (3 : Int32)) - (1 : Int32))), .val (.int (f0_v14 p1)), .val (.int (f0_v23 p1)), .val (.ref b6), .val (.ref b18), .val (.ref b37), .val (.int (f0_v151 p2)), .val (.int (f0_v163 p2)), .val (.int (f0_v175 p2)), .val (.int (f0_v184 p3)), .val (.int (f0_v196 p3)), .val (.int (f0_v208 p3)), .val (.int (f0_v217 p4)), .val (.int (f0_v229 p4)), .val (.int (f0_v241 p4)), .val (.int (f0_v251 p5)), .val (.int (f0_v261 p5)), .val (.int (f0_s0_274 p5)), .val (.int (f0_s0_287 p5)), .val (.int (f0_s0_300 p5)), .val (.ref b60), .val (.ref b81), .val (.ref b112), .val (.ref b153), .val (.int (f0_v408 p1 p2 p3 p4 p5)), .val (.int (f0_s0_517 p1 p2 p3 p4 p5)), .val (.int (-1 : Int32)), .unset, .unset]) rfl ?_
    show Steps p.tables e below (T447.setTop (mkF m 522 #[.val (.int p1), .val (.int p2), .val (.int p3), .val (.int p4), .val (.int p5), .val (.int ((p1 &&& (3 : Int32)) - (1 : Int32))), .val (.int (f0_v14 p1)), .val (.int (f0_v23 p1)), .val (.ref b6), .val (.ref b18), .val (.ref b37), .val (.int (f0_v151 p2)), .val (.int (f0_v163 p2)), .val (.int (f0_v175 p2)), .val (.int (f0_v184 p3)), .val (.int (f0_v196 p3)), .val (.int (f0_v208 p3)), .val (.int (f0_v217 p4)), .val (.int (f0_v229 p4)), .val (.int (f0_v241 p4)), .val (.int (f0_v251 p5)), .val (.int (f0_v261 p5)), .val (.int (f0_s0_274 p5)), .val (.int (f0_s0_287 p5)), .val (.int (f0_s0_300 p5)), .val (.ref b60), .val (.ref b81), .val (.ref b112), .val (.ref b153), .val (.int (f0_v408 p1 p2 p3 p4 p5)), .val (.int (f0_s0_517 p1 p2 p3 p4 p5)), .val (.int (-1 : Int32)), .unset, .unset] [])) _
    refine XS.iload X447.here hx rfl (hb hby at_522) rfl ?_
    exact k
  have pre104 : ∀ t, Steps p.tables e below (T447.setTop (mkF m 555 #[.val (.int p1), .val (.int p2), .val (.int p3), .val (.int p4), .val (.int p5), .val (.int ((p1 &&& (3 : Int32)) - (1 : Int32))), .val (.int (f0_v14 p1)), .val (.int (f0_v23 p1)), .val (.ref b6), .val (.ref b18), .val (.ref b37), .val (.int (f0_v151 p2)), .val (.int (f0_v163 p2)), .val (.int (f0_v175 p2)), .val (.int (f0_v184 p3)), .val (.int (f0_v196 p3)), .val (.int (f0_v208 p3)), .val (.int (f0_v217 p4)), .val (.int (f0_v229 p4)), .val (.int (f0_v241 p4)), .val (.int (f0_v251 p5)), .val (.int (f0_v261 p5)), .val (.int (f0_s0_274 p5)), .val (.int (f0_s0_287 p5)), .val (.int (f0_s0_300 p5)), .val (.ref b60), .val (.ref b81), .val (.ref b112), .val (.ref b153), .val (.int (f0_v408 p1 p2 p3 p4 p5)), .val (.int (f0_s0_517 p1 p2 p3 p4 p5)), .val (.int (f0_l31_555 p1 p4 p5)), .unset, .unset] [])) t → Steps p.tables e below (s₁.setTop (entryFrame m #[(.int p1), (.int p2), (.int p3), (.int p4), (.int p5)] maxLocals)) t := by
    intro t k
    by_cases hc524 : (f0_s0_300 p5) = (0 : Int32)
    · have eq105 := (show (f0_l31_555 p1 p4 p5) = (-1 : Int32) from by unfold f0_l31_555; simp only [if_pos hc524])
      try rw [eq105] at k
      refine pre103 t ?_
      refine XS.ifYes X447.here hx rfl (pc0 := 524) (pc' := 555) rfl (hb hby at_524) rfl ((if0 _ _).trans (teq hc524).1) (by decide) (by decide) ?_
      exact k
    · have pre106 : ∀ t, Steps p.tables e below (T447.setTop (mkF m 531 #[.val (.int p1), .val (.int p2), .val (.int p3), .val (.int p4), .val (.int p5), .val (.int ((p1 &&& (3 : Int32)) - (1 : Int32))), .val (.int (f0_v14 p1)), .val (.int (f0_v23 p1)), .val (.ref b6), .val (.ref b18), .val (.ref b37), .val (.int (f0_v151 p2)), .val (.int (f0_v163 p2)), .val (.int (f0_v175 p2)), .val (.int (f0_v184 p3)), .val (.int (f0_v196 p3)), .val (.int (f0_v208 p3)), .val (.int (f0_v217 p4)), .val (.int (f0_v229 p4)), .val (.int (f0_v241 p4)), .val (.int (f0_v251 p5)), .val (.int (f0_v261 p5)), .val (.int (f0_s0_274 p5)), .val (.int (f0_s0_287 p5)), .val (.int (f0_s0_300 p5)), .val (.ref b60), .val (.ref b81), .val (.ref b112), .val (.ref b153), .val (.int (f0_v408 p1 p2 p3 p4 p5)), .val (.int (f0_s0_517 p1 p2 p3 p4 p5)), .val (.int (-1 : Int32)), .unset, .unset] [(.int (f0_v251 p5)), (.int (f0_v229 p4))])) t → Steps p.tables e below (s₁.setTop (entryFrame m #[(.int p1), (.int p2), (.int p3), (.int p4), (.int p5)] maxLocals)) t := by
        intro t k
        refine pre103 t ?_
        refine XS.ifNo X447.here hx rfl (hb hby at_524) rfl ((if0 _ _).trans (feq hc524).1) ?_
        refine XS.iload X447.here hx rfl (hb hby at_527) rfl ?_
        show Steps p.tables e below (T447.setTop (mkF m 529 #[.val (.int p1), .val (.int p2), .val (.int p3), .val (.int p4), .val (.int p5), .val (.int ((p1 &&& (3 : Int32)) - (1 : Int32))), .val (.int (f0_v14 p1)), .val (.int (f0_v23 p1)), .val (.ref b6), .val (.ref b18), .val (.ref b37), .val (.int (f0_v151 p2)), .val (.int (f0_v163 p2)), .val (.int (f0_v175 p2)), .val (.int (f0_v184 p3)), .val (.int (f0_v196 p3)), .val (.int (f0_v208 p3)), .val (.int (f0_v217 p4)), .val (.int (f0_v229 p4)), .val (.int (f0_v241 p4)), .val (.int (f0_v251 p5)), .val (.int (f0_v261 p5)), .val (.int (f0_s0_274 p5)), .val (.int (f0_s0_287 p5)), .val (.int (f0_s0_300 p5)), .val (.ref b60), .val (.ref b81), .val (.ref b112), .val (.ref b153), .val (.int (f0_v408 p1 p2 p3 p4 p5)), .val (.int (f0_s0_517 p1 p2 p3 p4 p5)), .val (.int (-1 : Int32)), .unset, .unset] [(.int (f0_v229 p4))])) _
        refine XS.iload X447.here hx rfl (hb hby at_529) rfl ?_
        exact k
      by_cases hc531 : (f0_v229 p4) = (f0_v251 p5)
      · have pre107 : ∀ t, Steps p.tables e below (T447.setTop (mkF m 538 #[.val (.int p1), .val (.int p2), .val (.int p3), .val (.int p4), .val (.int p5), .val (.int ((p1 &&& (3 : Int32)) - (1 : Int32))), .val (.int (f0_v14 p1)), .val (.int (f0_v23 p1)), .val (.ref b6), .val (.ref b18), .val (.ref b37), .val (.int (f0_v151 p2)), .val (.int (f0_v163 p2)), .val (.int (f0_v175 p2)), .val (.int (f0_v184 p3)), .val (.int (f0_v196 p3)), .val (.int (f0_v208 p3)), .val (.int (f0_v217 p4)), .val (.int (f0_v229 p4)), .val (.int (f0_v241 p4)), .val (.int (f0_v251 p5)), .val (.int (f0_v261 p5)), .val (.int (f0_s0_274 p5)), .val (.int (f0_s0_287 p5)), .val (.int (f0_s0_300 p5)), .val (.ref b60), .val (.ref b81), .val (.ref b112), .val (.ref b153), .val (.int (f0_v408 p1 p2 p3 p4 p5)), .val (.int (f0_s0_517 p1 p2 p3 p4 p5)), .val (.int (-1 : Int32)), .unset, .unset] [(.int (f0_v251 p5)), (.int (f0_v241 p4))])) t → Steps p.tables e below (s₁.setTop (entryFrame m #[(.int p1), (.int p2), (.int p3), (.int p4), (.int p5)] maxLocals)) t := by
          intro t k
          refine pre106 t ?_
          refine XS.icmpNo X447.here hx rfl (hb hby at_531) rfl (teq hc531).2 ?_
          refine XS.iload X447.here hx rfl (hb hby at_534) rfl ?_
          refine XS.iload X447.here hx rfl (hb hby at_536) rfl ?_
          exact k
        by_cases hc538 : (f0_v241 p4) = (f0_v251 p5)
        · have eq108 := (show (f0_l31_555 p1 p4 p5) = (-1 : Int32) from by unfold f0_l31_555; simp only [if_neg hc524, if_pos hc531, if_pos hc538])
          try rw [eq108] at k
          refine pre107 t ?_
          show Steps p.tables e below (T447.setTop (mkF m 538 #[.val (.int p1), .val (.int p2), .val (.int p3), .val (.int p4), .val (.int p5), .val (.int ((p1 &&& (3 : Int32)) - (1 : Int32))), .val (.int (f0_v14 p1)), .val (.int (f0_v23 p1)), .val (.ref b6), .val (.ref b18), .val (.ref b37), .val (.int (f0_v151 p2)), .val (.int (f0_v163 p2)), .val (.int (f0_v175 p2)), .val (.int (f0_v184 p3)), .val (.int (f0_v196 p3)), .val (.int (f0_v208 p3)), .val (.int (f0_v217 p4)), .val (.int (f0_v229 p4)), .val (.int (f0_v241 p4)), .val (.int (f0_v251 p5)), .val (.int (f0_v261 p5)), .val (.int (f0_s0_274 p5)), .val (.int (f0_s0_287 p5)), .val (.int (f0_s0_300 p5)), .val (.ref b60), .val (.ref b81), .val (.ref b112), .val (.ref b153), .val (.int (f0_v408 p1 p2 p3 p4 p5)), .val (.int (f0_s0_517 p1 p2 p3 p4 p5)), .val (.int (-1 : Int32)), .unset, .unset] [(.int (f0_v251 p5)), (.int (f0_v241 p4))])) _
          refine XS.icmpYes X447.here hx rfl (pc0 := 538) (pc' := 555) rfl (hb hby at_538) rfl (teq hc538).1 (by decide) (by decide) ?_
          exact k
        · have pre109 : ∀ t, Steps p.tables e below (T447.setTop (mkF m 548 #[.val (.int p1), .val (.int p2), .val (.int p3), .val (.int p4), .val (.int p5), .val (.int ((p1 &&& (3 : Int32)) - (1 : Int32))), .val (.int (f0_v14 p1)), .val (.int (f0_v23 p1)), .val (.ref b6), .val (.ref b18), .val (.ref b37), .val (.int (f0_v151 p2)), .val (.int (f0_v163 p2)), .val (.int (f0_v175 p2)), .val (.int (f0_v184 p3)), .val (.int (f0_v196 p3)), .val (.int (f0_v208 p3)), .val (.int (f0_v217 p4)), .val (.int (f0_v229 p4)), .val (.int (f0_v241 p4)), .val (.int (f0_v251 p5)), .val (.int (f0_v261 p5)), .val (.int (f0_s0_274 p5)), .val (.int (f0_s0_287 p5)), .val (.int (f0_s0_300 p5)), .val (.ref b60), .val (.ref b81), .val (.ref b112), .val (.ref b153), .val (.int (f0_v408 p1 p2 p3 p4 p5)), .val (.int (f0_s0_517 p1 p2 p3 p4 p5)), .val (.int (-1 : Int32)), .unset, .unset] [(.int (f0_v251 p5)), (.int ((f0_v42 p1) ((f0_v217 p4)).toNatClampNeg))])) t → Steps p.tables e below (s₁.setTop (entryFrame m #[(.int p1), (.int p2), (.int p3), (.int p4), (.int p5)] maxLocals)) t := by
            intro t k
            refine pre107 t ?_
            refine XS.icmpNo X447.here hx rfl (hb hby at_538) rfl (feq hc538).1 ?_
            refine XS.aload X447.here hx rfl (hb hby at_541) rfl rfl ?_
            refine XS.iload X447.here hx rfl (hb hby at_543) rfl ?_
            show Steps p.tables e below (T447.setTop (mkF m 545 #[.val (.int p1), .val (.int p2), .val (.int p3), .val (.int p4), .val (.int p5), .val (.int ((p1 &&& (3 : Int32)) - (1 : Int32))), .val (.int (f0_v14 p1)), .val (.int (f0_v23 p1)), .val (.ref b6), .val (.ref b18), .val (.ref b37), .val (.int (f0_v151 p2)), .val (.int (f0_v163 p2)), .val (.int (f0_v175 p2)), .val (.int (f0_v184 p3)), .val (.int (f0_v196 p3)), .val (.int (f0_v208 p3)), .val (.int (f0_v217 p4)), .val (.int (f0_v229 p4)), .val (.int (f0_v241 p4)), .val (.int (f0_v251 p5)), .val (.int (f0_v261 p5)), .val (.int (f0_s0_274 p5)), .val (.int (f0_s0_287 p5)), .val (.int (f0_s0_300 p5)), .val (.ref b60), .val (.ref b81), .val (.ref b112), .val (.ref b153), .val (.int (f0_v408 p1 p2 p3 p4 p5)), .val (.int (f0_s0_517 p1 p2 p3 p4 p5)), .val (.int (-1 : Int32)), .unset, .unset] [(.int (f0_v217 p4)), (.ref b6)])) _
            refine ldI X447 hx hZ e447 c403 (j := (f0_v217 p4)) (own_i3 (own_v217 p4) rfl) (g := (mkF m 545 #[.val (.int p1), .val (.int p2), .val (.int p3), .val (.int p4), .val (.int p5), .val (.int ((p1 &&& (3 : Int32)) - (1 : Int32))), .val (.int (f0_v14 p1)), .val (.int (f0_v23 p1)), .val (.ref b6), .val (.ref b18), .val (.ref b37), .val (.int (f0_v151 p2)), .val (.int (f0_v163 p2)), .val (.int (f0_v175 p2)), .val (.int (f0_v184 p3)), .val (.int (f0_v196 p3)), .val (.int (f0_v208 p3)), .val (.int (f0_v217 p4)), .val (.int (f0_v229 p4)), .val (.int (f0_v241 p4)), .val (.int (f0_v251 p5)), .val (.int (f0_v261 p5)), .val (.int (f0_s0_274 p5)), .val (.int (f0_s0_287 p5)), .val (.int (f0_s0_300 p5)), .val (.ref b60), .val (.ref b81), .val (.ref b112), .val (.ref b153), .val (.int (f0_v408 p1 p2 p3 p4 p5)), .val (.int (f0_s0_517 p1 p2 p3 p4 p5)), .val (.int (-1 : Int32)), .unset, .unset] [(.int (f0_v217 p4)), (.ref b6)])) rfl rfl (hb hby at_545) ?_
            show Steps p.tables e below (T447.setTop (mkF m 546 #[.val (.int p1), .val (.int p2), .val (.int p3), .val (.int p4), .val (.int p5), .val (.int ((p1 &&& (3 : Int32)) - (1 : Int32))), .val (.int (f0_v14 p1)), .val (.int (f0_v23 p1)), .val (.ref b6), .val (.ref b18), .val (.ref b37), .val (.int (f0_v151 p2)), .val (.int (f0_v163 p2)), .val (.int (f0_v175 p2)), .val (.int (f0_v184 p3)), .val (.int (f0_v196 p3)), .val (.int (f0_v208 p3)), .val (.int (f0_v217 p4)), .val (.int (f0_v229 p4)), .val (.int (f0_v241 p4)), .val (.int (f0_v251 p5)), .val (.int (f0_v261 p5)), .val (.int (f0_s0_274 p5)), .val (.int (f0_s0_287 p5)), .val (.int (f0_s0_300 p5)), .val (.ref b60), .val (.ref b81), .val (.ref b112), .val (.ref b153), .val (.int (f0_v408 p1 p2 p3 p4 p5)), .val (.int (f0_s0_517 p1 p2 p3 p4 p5)), .val (.int (-1 : Int32)), .unset, .unset] [(.int ((f0_v42 p1) ((f0_v217 p4)).toNatClampNeg))])) _
            refine XS.iload X447.here hx rfl (hb hby at_546) rfl ?_
            exact k
          by_cases hc548 : ((f0_v42 p1) ((f0_v217 p4)).toNatClampNeg) = (f0_v251 p5)
          · have eq110 := (show (f0_l31_555 p1 p4 p5) = (f0_v241 p4) from by unfold f0_l31_555; simp only [if_neg hc524, if_pos hc531, if_neg hc538, if_pos hc548])
            try rw [eq110] at k
            refine pre109 t ?_
            refine XS.icmpNo X447.here hx rfl (hb hby at_548) rfl (teq hc548).2 ?_
            refine XS.iload X447.here hx rfl (hb hby at_551) rfl ?_
            refine XS.istore X447.here hx rfl (hb hby at_553) rfl (l' := #[.val (.int p1), .val (.int p2), .val (.int p3), .val (.int p4), .val (.int p5), .val (.int ((p1 &&& (3 : Int32)) - (1 : Int32))), .val (.int (f0_v14 p1)), .val (.int (f0_v23 p1)), .val (.ref b6), .val (.ref b18), .val (.ref b37), .val (.int (f0_v151 p2)), .val (.int (f0_v163 p2)), .val (.int (f0_v175 p2)), .val (.int (f0_v184 p3)), .val (.int (f0_v196 p3)), .val (.int (f0_v208 p3)), .val (.int (f0_v217 p4)), .val (.int (f0_v229 p4)), .val (.int (f0_v241 p4)), .val (.int (f0_v251 p5)), .val (.int (f0_v261 p5)), .val (.int (f0_s0_274 p5)), .val (.int (f0_s0_287 p5)), .val (.int (f0_s0_300 p5)), .val (.ref b60), .val (.ref b81), .val (.ref b112), .val (.ref b153), .val (.int (f0_v408 p1 p2 p3 p4 p5)), .val (.int (f0_s0_517 p1 p2 p3 p4 p5)), .val (.int (f0_v241 p4)), .unset, .unset]) rfl ?_
            exact k
          · have eq111 := (show (f0_l31_555 p1 p4 p5) = (-1 : Int32) from by unfold f0_l31_555; simp only [if_neg hc524, if_pos hc531, if_neg hc538, if_neg hc548])
            try rw [eq111] at k
            refine pre109 t ?_
            show Steps p.tables e below (T447.setTop (mkF m 548 #[.val (.int p1), .val (.int p2), .val (.int p3), .val (.int p4), .val (.int p5), .val (.int ((p1 &&& (3 : Int32)) - (1 : Int32))), .val (.int (f0_v14 p1)), .val (.int (f0_v23 p1)), .val (.ref b6), .val (.ref b18), .val (.ref b37), .val (.int (f0_v151 p2)), .val (.int (f0_v163 p2)), .val (.int (f0_v175 p2)), .val (.int (f0_v184 p3)), .val (.int (f0_v196 p3)), .val (.int (f0_v208 p3)), .val (.int (f0_v217 p4)), .val (.int (f0_v229 p4)), .val (.int (f0_v241 p4)), .val (.int (f0_v251 p5)), .val (.int (f0_v261 p5)), .val (.int (f0_s0_274 p5)), .val (.int (f0_s0_287 p5)), .val (.int (f0_s0_300 p5)), .val (.ref b60), .val (.ref b81), .val (.ref b112), .val (.ref b153), .val (.int (f0_v408 p1 p2 p3 p4 p5)), .val (.int (f0_s0_517 p1 p2 p3 p4 p5)), .val (.int (-1 : Int32)), .unset, .unset] [(.int (f0_v251 p5)), (.int ((f0_v42 p1) ((f0_v217 p4)).toNatClampNeg))])) _
            refine XS.icmpYes X447.here hx rfl (pc0 := 548) (pc' := 555) rfl (hb hby at_548) rfl (feq hc548).2 (by decide) (by decide) ?_
            exact k
      · have eq112 := (show (f0_l31_555 p1 p4 p5) = (-1 : Int32) from by unfold f0_l31_555; simp only [if_neg hc524, if_neg hc531])
        try rw [eq112] at k
        refine pre106 t ?_
        refine XS.icmpYes X447.here hx rfl (pc0 := 531) (pc' := 555) rfl (hb hby at_531) rfl (feq hc531).2 (by decide) (by decide) ?_
        exact k
  have pre113 : ∀ t, Steps p.tables e below (T447.setTop (mkF m 557 #[.val (.int p1), .val (.int p2), .val (.int p3), .val (.int p4), .val (.int p5), .val (.int ((p1 &&& (3 : Int32)) - (1 : Int32))), .val (.int (f0_v14 p1)), .val (.int (f0_v23 p1)), .val (.ref b6), .val (.ref b18), .val (.ref b37), .val (.int (f0_v151 p2)), .val (.int (f0_v163 p2)), .val (.int (f0_v175 p2)), .val (.int (f0_v184 p3)), .val (.int (f0_v196 p3)), .val (.int (f0_v208 p3)), .val (.int (f0_v217 p4)), .val (.int (f0_v229 p4)), .val (.int (f0_v241 p4)), .val (.int (f0_v251 p5)), .val (.int (f0_v261 p5)), .val (.int (f0_s0_274 p5)), .val (.int (f0_s0_287 p5)), .val (.int (f0_s0_300 p5)), .val (.ref b60), .val (.ref b81), .val (.ref b112), .val (.ref b153), .val (.int (f0_v408 p1 p2 p3 p4 p5)), .val (.int (f0_s0_517 p1 p2 p3 p4 p5)), .val (.int (f0_l31_555 p1 p4 p5)), .unset, .unset] [(.int (f0_s0_287 p5))])) t → Steps p.tables e below (s₁.setTop (entryFrame m #[(.int p1), (.int p2), (.int p3), (.int p4), (.int p5)] maxLocals)) t := by
    intro t k
    refine pre104 t ?_
    refine XS.iload X447.here hx rfl (hb hby at_555) rfl ?_
    exact k
  have pre114 : ∀ t, Steps p.tables e below (T447.setTop (mkF m 588 #[.val (.int p1), .val (.int p2), .val (.int p3), .val (.int p4), .val (.int p5), .val (.int ((p1 &&& (3 : Int32)) - (1 : Int32))), .val (.int (f0_v14 p1)), .val (.int (f0_v23 p1)), .val (.ref b6), .val (.ref b18), .val (.ref b37), .val (.int (f0_v151 p2)), .val (.int (f0_v163 p2)), .val (.int (f0_v175 p2)), .val (.int (f0_v184 p3)), .val (.int (f0_v196 p3)), .val (.int (f0_v208 p3)), .val (.int (f0_v217 p4)), .val (.int (f0_v229 p4)), .val (.int (f0_v241 p4)), .val (.int (f0_v251 p5)), .val (.int (f0_v261 p5)), .val (.int (f0_s0_274 p5)), .val (.int (f0_s0_287 p5)), .val (.int (f0_s0_300 p5)), .val (.ref b60), .val (.ref b81), .val (.ref b112), .val (.ref b153), .val (.int (f0_v408 p1 p2 p3 p4 p5)), .val (.int (f0_s0_517 p1 p2 p3 p4 p5)), .val (.int (f0_l31_588 p1 p3 p4 p5)), .unset, .unset] [])) t → Steps p.tables e below (s₁.setTop (entryFrame m #[(.int p1), (.int p2), (.int p3), (.int p4), (.int p5)] maxLocals)) t := by
    intro t k
    by_cases hc557 : (f0_s0_287 p5) = (0 : Int32)
    · have eq115 := (show (f0_l31_588 p1 p3 p4 p5) = (f0_l31_555 p1 p4 p5) from by unfold f0_l31_588; simp only [if_pos hc557])
      try rw [eq115] at k
      refine pre113 t ?_
      refine XS.ifYes X447.here hx rfl (pc0 := 557) (pc' := 588) rfl (hb hby at_557) rfl ((if0 _ _).trans (teq hc557).1) (by decide) (by decide) ?_
      exact k
    · have pre116 : ∀ t, Steps p.tables e below (T447.setTop (mkF m 564 #[.val (.int p1), .val (.int p2), .val (.int p3), .val (.int p4), .val (.int p5), .val (.int ((p1 &&& (3 : Int32)) - (1 : Int32))), .val (.int (f0_v14 p1)), .val (.int (f0_v23 p1)), .val (.ref b6), .val (.ref b18), .val (.ref b37), .val (.int (f0_v151 p2)), .val (.int (f0_v163 p2)), .val (.int (f0_v175 p2)), .val (.int (f0_v184 p3)), .val (.int (f0_v196 p3)), .val (.int (f0_v208 p3)), .val (.int (f0_v217 p4)), .val (.int (f0_v229 p4)), .val (.int (f0_v241 p4)), .val (.int (f0_v251 p5)), .val (.int (f0_v261 p5)), .val (.int (f0_s0_274 p5)), .val (.int (f0_s0_287 p5)), .val (.int (f0_s0_300 p5)), .val (.ref b60), .val (.ref b81), .val (.ref b112), .val (.ref b153), .val (.int (f0_v408 p1 p2 p3 p4 p5)), .val (.int (f0_s0_517 p1 p2 p3 p4 p5)), .val (.int (f0_l31_555 p1 p4 p5)), .unset, .unset] [(.int (f0_v251 p5)), (.int (f0_v196 p3))])) t → Steps p.tables e below (s₁.setTop (entryFrame m #[(.int p1), (.int p2), (.int p3), (.int p4), (.int p5)] maxLocals)) t := by
        intro t k
        refine pre113 t ?_
        show Steps p.tables e below (T447.setTop (mkF m 557 #[.val (.int p1), .val (.int p2), .val (.int p3), .val (.int p4), .val (.int p5), .val (.int ((p1 &&& (3 : Int32)) - (1 : Int32))), .val (.int (f0_v14 p1)), .val (.int (f0_v23 p1)), .val (.ref b6), .val (.ref b18), .val (.ref b37), .val (.int (f0_v151 p2)), .val (.int (f0_v163 p2)), .val (.int (f0_v175 p2)), .val (.int (f0_v184 p3)), .val (.int (f0_v196 p3)), .val (.int (f0_v208 p3)), .val (.int (f0_v217 p4)), .val (.int (f0_v229 p4)), .val (.int (f0_v241 p4)), .val (.int (f0_v251 p5)), .val (.int (f0_v261 p5)), .val (.int (f0_s0_274 p5)), .val (.int (f0_s0_287 p5)), .val (.int (f0_s0_300 p5)), .val (.ref b60), .val (.ref b81), .val (.ref b112), .val (.ref b153), .val (.int (f0_v408 p1 p2 p3 p4 p5)), .val (.int (f0_s0_517 p1 p2 p3 p4 p5)), .val (.int (f0_l31_555 p1 p4 p5)), .unset, .unset] [(.int (f0_s0_287 p5))])) _
        refine XS.ifNo X447.here hx rfl (hb hby at_557) rfl ((if0 _ _).trans (feq hc557).1) ?_
        refine XS.iload X447.here hx rfl (hb hby at_560) rfl ?_
        refine XS.iload X447.here hx rfl (hb hby at_562) rfl ?_
        exact k
      by_cases hc564 : (f0_v196 p3) = (f0_v251 p5)
      · have pre117 : ∀ t, Steps p.tables e below (T447.setTop (mkF m 571 #[.val (.int p1), .val (.int p2), .val (.int p3), .val (.int p4), .val (.int p5), .val (.int ((p1 &&& (3 : Int32)) - (1 : Int32))), .val (.int (f0_v14 p1)), .val (.int (f0_v23 p1)), .val (.ref b6), .val (.ref b18), .val (.ref b37), .val (.int (f0_v151 p2)), .val (.int (f0_v163 p2)), .val (.int (f0_v175 p2)), .val (.int (f0_v184 p3)), .val (.int (f0_v196 p3)), .val (.int (f0_v208 p3)), .val (.int (f0_v217 p4)), .val (.int (f0_v229 p4)), .val (.int (f0_v241 p4)), .val (.int (f0_v251 p5)), .val (.int (f0_v261 p5)), .val (.int (f0_s0_274 p5)), .val (.int (f0_s0_287 p5)), .val (.int (f0_s0_300 p5)), .val (.ref b60), .val (.ref b81), .val (.ref b112), .val (.ref b153), .val (.int (f0_v408 p1 p2 p3 p4 p5)), .val (.int (f0_s0_517 p1 p2 p3 p4 p5)), .val (.int (f0_l31_555 p1 p4 p5)), .unset, .unset] [(.int (f0_v251 p5)), (.int (f0_v208 p3))])) t → Steps p.tables e below (s₁.setTop (entryFrame m #[(.int p1), (.int p2), (.int p3), (.int p4), (.int p5)] maxLocals)) t := by
          intro t k
          refine pre116 t ?_
          refine XS.icmpNo X447.here hx rfl (hb hby at_564) rfl (teq hc564).2 ?_
          show Steps p.tables e below (T447.setTop (mkF m 567 #[.val (.int p1), .val (.int p2), .val (.int p3), .val (.int p4), .val (.int p5), .val (.int ((p1 &&& (3 : Int32)) - (1 : Int32))), .val (.int (f0_v14 p1)), .val (.int (f0_v23 p1)), .val (.ref b6), .val (.ref b18), .val (.ref b37), .val (.int (f0_v151 p2)), .val (.int (f0_v163 p2)), .val (.int (f0_v175 p2)), .val (.int (f0_v184 p3)), .val (.int (f0_v196 p3)), .val (.int (f0_v208 p3)), .val (.int (f0_v217 p4)), .val (.int (f0_v229 p4)), .val (.int (f0_v241 p4)), .val (.int (f0_v251 p5)), .val (.int (f0_v261 p5)), .val (.int (f0_s0_274 p5)), .val (.int (f0_s0_287 p5)), .val (.int (f0_s0_300 p5)), .val (.ref b60), .val (.ref b81), .val (.ref b112), .val (.ref b153), .val (.int (f0_v408 p1 p2 p3 p4 p5)), .val (.int (f0_s0_517 p1 p2 p3 p4 p5)), .val (.int (f0_l31_555 p1 p4 p5)), .unset, .unset] [])) _
          refine XS.iload X447.here hx rfl (hb hby at_567) rfl ?_
          refine XS.iload X447.here hx rfl (hb hby at_569) rfl ?_
          exact k
        by_cases hc571 : (f0_v208 p3) = (f0_v251 p5)
        · have eq118 := (show (f0_l31_588 p1 p3 p4 p5) = (f0_l31_555 p1 p4 p5) from by unfold f0_l31_588; simp only [if_neg hc557, if_pos hc564, if_pos hc571])
          try rw [eq118] at k
          refine pre117 t ?_
          refine XS.icmpYes X447.here hx rfl (pc0 := 571) (pc' := 588) rfl (hb hby at_571) rfl (teq hc571).1 (by decide) (by decide) ?_
          exact k
        · have pre119 : ∀ t, Steps p.tables e below (T447.setTop (mkF m 581 #[.val (.int p1), .val (.int p2), .val (.int p3), .val (.int p4), .val (.int p5), .val (.int ((p1 &&& (3 : Int32)) - (1 : Int32))), .val (.int (f0_v14 p1)), .val (.int (f0_v23 p1)), .val (.ref b6), .val (.ref b18), .val (.ref b37), .val (.int (f0_v151 p2)), .val (.int (f0_v163 p2)), .val (.int (f0_v175 p2)), .val (.int (f0_v184 p3)), .val (.int (f0_v196 p3)), .val (.int (f0_v208 p3)), .val (.int (f0_v217 p4)), .val (.int (f0_v229 p4)), .val (.int (f0_v241 p4)), .val (.int (f0_v251 p5)), .val (.int (f0_v261 p5)), .val (.int (f0_s0_274 p5)), .val (.int (f0_s0_287 p5)), .val (.int (f0_s0_300 p5)), .val (.ref b60), .val (.ref b81), .val (.ref b112), .val (.ref b153), .val (.int (f0_v408 p1 p2 p3 p4 p5)), .val (.int (f0_s0_517 p1 p2 p3 p4 p5)), .val (.int (f0_l31_555 p1 p4 p5)), .unset, .unset] [(.int (f0_v251 p5)), (.int ((f0_v42 p1) ((f0_v184 p3)).toNatClampNeg))])) t → Steps p.tables e below (s₁.setTop (entryFrame m #[(.int p1), (.int p2), (.int p3), (.int p4), (.int p5)] maxLocals)) t := by
            intro t k
            refine pre117 t ?_
            refine XS.icmpNo X447.here hx rfl (hb hby at_571) rfl (feq hc571).1 ?_
            show Steps p.tables e below (T447.setTop (mkF m 574 #[.val (.int p1), .val (.int p2), .val (.int p3), .val (.int p4), .val (.int p5), .val (.int ((p1 &&& (3 : Int32)) - (1 : Int32))), .val (.int (f0_v14 p1)), .val (.int (f0_v23 p1)), .val (.ref b6), .val (.ref b18), .val (.ref b37), .val (.int (f0_v151 p2)), .val (.int (f0_v163 p2)), .val (.int (f0_v175 p2)), .val (.int (f0_v184 p3)), .val (.int (f0_v196 p3)), .val (.int (f0_v208 p3)), .val (.int (f0_v217 p4)), .val (.int (f0_v229 p4)), .val (.int (f0_v241 p4)), .val (.int (f0_v251 p5)), .val (.int (f0_v261 p5)), .val (.int (f0_s0_274 p5)), .val (.int (f0_s0_287 p5)), .val (.int (f0_s0_300 p5)), .val (.ref b60), .val (.ref b81), .val (.ref b112), .val (.ref b153), .val (.int (f0_v408 p1 p2 p3 p4 p5)), .val (.int (f0_s0_517 p1 p2 p3 p4 p5)), .val (.int (f0_l31_555 p1 p4 p5)), .unset, .unset] [])) _
            refine XS.aload X447.here hx rfl (hb hby at_574) rfl rfl ?_
            refine XS.iload X447.here hx rfl (hb hby at_576) rfl ?_
            show Steps p.tables e below (T447.setTop (mkF m 578 #[.val (.int p1), .val (.int p2), .val (.int p3), .val (.int p4), .val (.int p5), .val (.int ((p1 &&& (3 : Int32)) - (1 : Int32))), .val (.int (f0_v14 p1)), .val (.int (f0_v23 p1)), .val (.ref b6), .val (.ref b18), .val (.ref b37), .val (.int (f0_v151 p2)), .val (.int (f0_v163 p2)), .val (.int (f0_v175 p2)), .val (.int (f0_v184 p3)), .val (.int (f0_v196 p3)), .val (.int (f0_v208 p3)), .val (.int (f0_v217 p4)), .val (.int (f0_v229 p4)), .val (.int (f0_v241 p4)), .val (.int (f0_v251 p5)), .val (.int (f0_v261 p5)), .val (.int (f0_s0_274 p5)), .val (.int (f0_s0_287 p5)), .val (.int (f0_s0_300 p5)), .val (.ref b60), .val (.ref b81), .val (.ref b112), .val (.ref b153), .val (.int (f0_v408 p1 p2 p3 p4 p5)), .val (.int (f0_s0_517 p1 p2 p3 p4 p5)), .val (.int (f0_l31_555 p1 p4 p5)), .unset, .unset] [(.int (f0_v184 p3)), (.ref b6)])) _
            refine ldI X447 hx hZ e447 c403 (j := (f0_v184 p3)) (own_i3 (own_v184 p3) rfl) (g := (mkF m 578 #[.val (.int p1), .val (.int p2), .val (.int p3), .val (.int p4), .val (.int p5), .val (.int ((p1 &&& (3 : Int32)) - (1 : Int32))), .val (.int (f0_v14 p1)), .val (.int (f0_v23 p1)), .val (.ref b6), .val (.ref b18), .val (.ref b37), .val (.int (f0_v151 p2)), .val (.int (f0_v163 p2)), .val (.int (f0_v175 p2)), .val (.int (f0_v184 p3)), .val (.int (f0_v196 p3)), .val (.int (f0_v208 p3)), .val (.int (f0_v217 p4)), .val (.int (f0_v229 p4)), .val (.int (f0_v241 p4)), .val (.int (f0_v251 p5)), .val (.int (f0_v261 p5)), .val (.int (f0_s0_274 p5)), .val (.int (f0_s0_287 p5)), .val (.int (f0_s0_300 p5)), .val (.ref b60), .val (.ref b81), .val (.ref b112), .val (.ref b153), .val (.int (f0_v408 p1 p2 p3 p4 p5)), .val (.int (f0_s0_517 p1 p2 p3 p4 p5)), .val (.int (f0_l31_555 p1 p4 p5)), .unset, .unset] [(.int (f0_v184 p3)), (.ref b6)])) rfl rfl (hb hby at_578) ?_
            show Steps p.tables e below (T447.setTop (mkF m 579 #[.val (.int p1), .val (.int p2), .val (.int p3), .val (.int p4), .val (.int p5), .val (.int ((p1 &&& (3 : Int32)) - (1 : Int32))), .val (.int (f0_v14 p1)), .val (.int (f0_v23 p1)), .val (.ref b6), .val (.ref b18), .val (.ref b37), .val (.int (f0_v151 p2)), .val (.int (f0_v163 p2)), .val (.int (f0_v175 p2)), .val (.int (f0_v184 p3)), .val (.int (f0_v196 p3)), .val (.int (f0_v208 p3)), .val (.int (f0_v217 p4)), .val (.int (f0_v229 p4)), .val (.int (f0_v241 p4)), .val (.int (f0_v251 p5)), .val (.int (f0_v261 p5)), .val (.int (f0_s0_274 p5)), .val (.int (f0_s0_287 p5)), .val (.int (f0_s0_300 p5)), .val (.ref b60), .val (.ref b81), .val (.ref b112), .val (.ref b153), .val (.int (f0_v408 p1 p2 p3 p4 p5)), .val (.int (f0_s0_517 p1 p2 p3 p4 p5)), .val (.int (f0_l31_555 p1 p4 p5)), .unset, .unset] [(.int ((f0_v42 p1) ((f0_v184 p3)).toNatClampNeg))])) _
            refine XS.iload X447.here hx rfl (hb hby at_579) rfl ?_
            exact k
          by_cases hc581 : ((f0_v42 p1) ((f0_v184 p3)).toNatClampNeg) = (f0_v251 p5)
          · have eq120 := (show (f0_l31_588 p1 p3 p4 p5) = (f0_v208 p3) from by unfold f0_l31_588; simp only [if_neg hc557, if_pos hc564, if_neg hc571, if_pos hc581])
            try rw [eq120] at k
            refine pre119 t ?_
            refine XS.icmpNo X447.here hx rfl (hb hby at_581) rfl (teq hc581).2 ?_
            refine XS.iload X447.here hx rfl (hb hby at_584) rfl ?_
            refine XS.istore X447.here hx rfl (hb hby at_586) rfl (l' := #[.val (.int p1), .val (.int p2), .val (.int p3), .val (.int p4), .val (.int p5), .val (.int ((p1 &&& (3 : Int32)) - (1 : Int32))), .val (.int (f0_v14 p1)), .val (.int (f0_v23 p1)), .val (.ref b6), .val (.ref b18), .val (.ref b37), .val (.int (f0_v151 p2)), .val (.int (f0_v163 p2)), .val (.int (f0_v175 p2)), .val (.int (f0_v184 p3)), .val (.int (f0_v196 p3)), .val (.int (f0_v208 p3)), .val (.int (f0_v217 p4)), .val (.int (f0_v229 p4)), .val (.int (f0_v241 p4)), .val (.int (f0_v251 p5)), .val (.int (f0_v261 p5)), .val (.int (f0_s0_274 p5)), .val (.int (f0_s0_287 p5)), .val (.int (f0_s0_300 p5)), .val (.ref b60), .val (.ref b81), .val (.ref b112), .val (.ref b153), .val (.int (f0_v408 p1 p2 p3 p4 p5)), .val (.int (f0_s0_517 p1 p2 p3 p4 p5)), .val (.int (f0_v208 p3)), .unset, .unset]) rfl ?_
            exact k
          · have eq121 := (show (f0_l31_588 p1 p3 p4 p5) = (f0_l31_555 p1 p4 p5) from by unfold f0_l31_588; simp only [if_neg hc557, if_pos hc564, if_neg hc571, if_neg hc581])
            try rw [eq121] at k
            refine pre119 t ?_
            show Steps p.tables e below (T447.setTop (mkF m 581 #[.val (.int p1), .val (.int p2), .val (.int p3), .val (.int p4), .val (.int p5), .val (.int ((p1 &&& (3 : Int32)) - (1 : Int32))), .val (.int (f0_v14 p1)), .val (.int (f0_v23 p1)), .val (.ref b6), .val (.ref b18), .val (.ref b37), .val (.int (f0_v151 p2)), .val (.int (f0_v163 p2)), .val (.int (f0_v175 p2)), .val (.int (f0_v184 p3)), .val (.int (f0_v196 p3)), .val (.int (f0_v208 p3)), .val (.int (f0_v217 p4)), .val (.int (f0_v229 p4)), .val (.int (f0_v241 p4)), .val (.int (f0_v251 p5)), .val (.int (f0_v261 p5)), .val (.int (f0_s0_274 p5)), .val (.int (f0_s0_287 p5)), .val (.int (f0_s0_300 p5)), .val (.ref b60), .val (.ref b81), .val (.ref b112), .val (.ref b153), .val (.int (f0_v408 p1 p2 p3 p4 p5)), .val (.int (f0_s0_517 p1 p2 p3 p4 p5)), .val (.int (f0_l31_555 p1 p4 p5)), .unset, .unset] [(.int (f0_v251 p5)), (.int ((f0_v42 p1) ((f0_v184 p3)).toNatClampNeg))])) _
            refine XS.icmpYes X447.here hx rfl (pc0 := 581) (pc' := 588) rfl (hb hby at_581) rfl (feq hc581).2 (by decide) (by decide) ?_
            exact k
      · have eq122 := (show (f0_l31_588 p1 p3 p4 p5) = (f0_l31_555 p1 p4 p5) from by unfold f0_l31_588; simp only [if_neg hc557, if_neg hc564])
        try rw [eq122] at k
        refine pre116 t ?_
        refine XS.icmpYes X447.here hx rfl (pc0 := 564) (pc' := 588) rfl (hb hby at_564) rfl (feq hc564).2 (by decide) (by decide) ?_
        exact k
  have pre123 : ∀ t, Steps p.tables e below (T447.setTop (mkF m 590 #[.val (.int p1), .val (.int p2), .val (.int p3), .val (.int p4), .val (.int p5), .val (.int ((p1 &&& (3 : Int32)) - (1 : Int32))), .val (.int (f0_v14 p1)), .val (.int (f0_v23 p1)), .val (.ref b6), .val (.ref b18), .val (.ref b37), .val (.int (f0_v151 p2)), .val (.int (f0_v163 p2)), .val (.int (f0_v175 p2)), .val (.int (f0_v184 p3)), .val (.int (f0_v196 p3)), .val (.int (f0_v208 p3)), .val (.int (f0_v217 p4)), .val (.int (f0_v229 p4)), .val (.int (f0_v241 p4)), .val (.int (f0_v251 p5)), .val (.int (f0_v261 p5)), .val (.int (f0_s0_274 p5)), .val (.int (f0_s0_287 p5)), .val (.int (f0_s0_300 p5)), .val (.ref b60), .val (.ref b81), .val (.ref b112), .val (.ref b153), .val (.int (f0_v408 p1 p2 p3 p4 p5)), .val (.int (f0_s0_517 p1 p2 p3 p4 p5)), .val (.int (f0_l31_588 p1 p3 p4 p5)), .unset, .unset] [(.int (f0_s0_274 p5))])) t → Steps p.tables e below (s₁.setTop (entryFrame m #[(.int p1), (.int p2), (.int p3), (.int p4), (.int p5)] maxLocals)) t := by
    intro t k
    refine pre114 t ?_
    refine XS.iload X447.here hx rfl (hb hby at_588) rfl ?_
    exact k
  have pre124 : ∀ t, Steps p.tables e below (T447.setTop (mkF m 621 #[.val (.int p1), .val (.int p2), .val (.int p3), .val (.int p4), .val (.int p5), .val (.int ((p1 &&& (3 : Int32)) - (1 : Int32))), .val (.int (f0_v14 p1)), .val (.int (f0_v23 p1)), .val (.ref b6), .val (.ref b18), .val (.ref b37), .val (.int (f0_v151 p2)), .val (.int (f0_v163 p2)), .val (.int (f0_v175 p2)), .val (.int (f0_v184 p3)), .val (.int (f0_v196 p3)), .val (.int (f0_v208 p3)), .val (.int (f0_v217 p4)), .val (.int (f0_v229 p4)), .val (.int (f0_v241 p4)), .val (.int (f0_v251 p5)), .val (.int (f0_v261 p5)), .val (.int (f0_s0_274 p5)), .val (.int (f0_s0_287 p5)), .val (.int (f0_s0_300 p5)), .val (.ref b60), .val (.ref b81), .val (.ref b112), .val (.ref b153), .val (.int (f0_v408 p1 p2 p3 p4 p5)), .val (.int (f0_s0_517 p1 p2 p3 p4 p5)), .val (.int (f0_l31_621 p1 p2 p3 p4 p5)), .unset, .unset] [])) t → Steps p.tables e below (s₁.setTop (entryFrame m #[(.int p1), (.int p2), (.int p3), (.int p4), (.int p5)] maxLocals)) t := by
    intro t k
    by_cases hc590 : (f0_s0_274 p5) = (0 : Int32)
    · have eq125 := (show (f0_l31_621 p1 p2 p3 p4 p5) = (f0_l31_588 p1 p3 p4 p5) from by unfold f0_l31_621; simp only [if_pos hc590])
      try rw [eq125] at k
      refine pre123 t ?_
      refine XS.ifYes X447.here hx rfl (pc0 := 590) (pc' := 621) rfl (hb hby at_590) rfl ((if0 _ _).trans (teq hc590).1) (by decide) (by decide) ?_
      exact k
    · have pre126 : ∀ t, Steps p.tables e below (T447.setTop (mkF m 597 #[.val (.int p1), .val (.int p2), .val (.int p3), .val (.int p4), .val (.int p5), .val (.int ((p1 &&& (3 : Int32)) - (1 : Int32))), .val (.int (f0_v14 p1)), .val (.int (f0_v23 p1)), .val (.ref b6), .val (.ref b18), .val (.ref b37), .val (.int (f0_v151 p2)), .val (.int (f0_v163 p2)), .val (.int (f0_v175 p2)), .val (.int (f0_v184 p3)), .val (.int (f0_v196 p3)), .val (.int (f0_v208 p3)), .val (.int (f0_v217 p4)), .val (.int (f0_v229 p4)), .val (.int (f0_v241 p4)), .val (.int (f0_v251 p5)), .val (.int (f0_v261 p5)), .val (.int (f0_s0_274 p5)), .val (.int (f0_s0_287 p5)), .val (.int (f0_s0_300 p5)), .val (.ref b60), .val (.ref b81), .val (.ref b112), .val (.ref b153), .val (.int (f0_v408 p1 p2 p3 p4 p5)), .val (.int (f0_s0_517 p1 p2 p3 p4 p5)), .val (.int (f0_l31_588 p1 p3 p4 p5)), .unset, .unset] [(.int (f0_v251 p5)), (.int (f0_v163 p2))])) t → Steps p.tables e below (s₁.setTop (entryFrame m #[(.int p1), (.int p2), (.int p3), (.int p4), (.int p5)] maxLocals)) t := by
        intro t k
        refine pre123 t ?_
        show Steps p.tables e below (T447.setTop (mkF m 590 #[.val (.int p1), .val (.int p2), .val (.int p3), .val (.int p4), .val (.int p5), .val (.int ((p1 &&& (3 : Int32)) - (1 : Int32))), .val (.int (f0_v14 p1)), .val (.int (f0_v23 p1)), .val (.ref b6), .val (.ref b18), .val (.ref b37), .val (.int (f0_v151 p2)), .val (.int (f0_v163 p2)), .val (.int (f0_v175 p2)), .val (.int (f0_v184 p3)), .val (.int (f0_v196 p3)), .val (.int (f0_v208 p3)), .val (.int (f0_v217 p4)), .val (.int (f0_v229 p4)), .val (.int (f0_v241 p4)), .val (.int (f0_v251 p5)), .val (.int (f0_v261 p5)), .val (.int (f0_s0_274 p5)), .val (.int (f0_s0_287 p5)), .val (.int (f0_s0_300 p5)), .val (.ref b60), .val (.ref b81), .val (.ref b112), .val (.ref b153), .val (.int (f0_v408 p1 p2 p3 p4 p5)), .val (.int (f0_s0_517 p1 p2 p3 p4 p5)), .val (.int (f0_l31_588 p1 p3 p4 p5)), .unset, .unset] [(.int (f0_s0_274 p5))])) _
        refine XS.ifNo X447.here hx rfl (hb hby at_590) rfl ((if0 _ _).trans (feq hc590).1) ?_
        refine XS.iload X447.here hx rfl (hb hby at_593) rfl ?_
        refine XS.iload X447.here hx rfl (hb hby at_595) rfl ?_
        exact k
      by_cases hc597 : (f0_v163 p2) = (f0_v251 p5)
      · have pre127 : ∀ t, Steps p.tables e below (T447.setTop (mkF m 604 #[.val (.int p1), .val (.int p2), .val (.int p3), .val (.int p4), .val (.int p5), .val (.int ((p1 &&& (3 : Int32)) - (1 : Int32))), .val (.int (f0_v14 p1)), .val (.int (f0_v23 p1)), .val (.ref b6), .val (.ref b18), .val (.ref b37), .val (.int (f0_v151 p2)), .val (.int (f0_v163 p2)), .val (.int (f0_v175 p2)), .val (.int (f0_v184 p3)), .val (.int (f0_v196 p3)), .val (.int (f0_v208 p3)), .val (.int (f0_v217 p4)), .val (.int (f0_v229 p4)), .val (.int (f0_v241 p4)), .val (.int (f0_v251 p5)), .val (.int (f0_v261 p5)), .val (.int (f0_s0_274 p5)), .val (.int (f0_s0_287 p5)), .val (.int (f0_s0_300 p5)), .val (.ref b60), .val (.ref b81), .val (.ref b112), .val (.ref b153), .val (.int (f0_v408 p1 p2 p3 p4 p5)), .val (.int (f0_s0_517 p1 p2 p3 p4 p5)), .val (.int (f0_l31_588 p1 p3 p4 p5)), .unset, .unset] [(.int (f0_v251 p5)), (.int (f0_v175 p2))])) t → Steps p.tables e below (s₁.setTop (entryFrame m #[(.int p1), (.int p2), (.int p3), (.int p4), (.int p5)] maxLocals)) t := by
          intro t k
          refine pre126 t ?_
          refine XS.icmpNo X447.here hx rfl (hb hby at_597) rfl (teq hc597).2 ?_
          show Steps p.tables e below (T447.setTop (mkF m 600 #[.val (.int p1), .val (.int p2), .val (.int p3), .val (.int p4), .val (.int p5), .val (.int ((p1 &&& (3 : Int32)) - (1 : Int32))), .val (.int (f0_v14 p1)), .val (.int (f0_v23 p1)), .val (.ref b6), .val (.ref b18), .val (.ref b37), .val (.int (f0_v151 p2)), .val (.int (f0_v163 p2)), .val (.int (f0_v175 p2)), .val (.int (f0_v184 p3)), .val (.int (f0_v196 p3)), .val (.int (f0_v208 p3)), .val (.int (f0_v217 p4)), .val (.int (f0_v229 p4)), .val (.int (f0_v241 p4)), .val (.int (f0_v251 p5)), .val (.int (f0_v261 p5)), .val (.int (f0_s0_274 p5)), .val (.int (f0_s0_287 p5)), .val (.int (f0_s0_300 p5)), .val (.ref b60), .val (.ref b81), .val (.ref b112), .val (.ref b153), .val (.int (f0_v408 p1 p2 p3 p4 p5)), .val (.int (f0_s0_517 p1 p2 p3 p4 p5)), .val (.int (f0_l31_588 p1 p3 p4 p5)), .unset, .unset] [])) _
          refine XS.iload X447.here hx rfl (hb hby at_600) rfl ?_
          refine XS.iload X447.here hx rfl (hb hby at_602) rfl ?_
          exact k
        by_cases hc604 : (f0_v175 p2) = (f0_v251 p5)
        · have eq128 := (show (f0_l31_621 p1 p2 p3 p4 p5) = (f0_l31_588 p1 p3 p4 p5) from by unfold f0_l31_621; simp only [if_neg hc590, if_pos hc597, if_pos hc604])
          try rw [eq128] at k
          refine pre127 t ?_
          refine XS.icmpYes X447.here hx rfl (pc0 := 604) (pc' := 621) rfl (hb hby at_604) rfl (teq hc604).1 (by decide) (by decide) ?_
          exact k
        · have pre129 : ∀ t, Steps p.tables e below (T447.setTop (mkF m 614 #[.val (.int p1), .val (.int p2), .val (.int p3), .val (.int p4), .val (.int p5), .val (.int ((p1 &&& (3 : Int32)) - (1 : Int32))), .val (.int (f0_v14 p1)), .val (.int (f0_v23 p1)), .val (.ref b6), .val (.ref b18), .val (.ref b37), .val (.int (f0_v151 p2)), .val (.int (f0_v163 p2)), .val (.int (f0_v175 p2)), .val (.int (f0_v184 p3)), .val (.int (f0_v196 p3)), .val (.int (f0_v208 p3)), .val (.int (f0_v217 p4)), .val (.int (f0_v229 p4)), .val (.int (f0_v241 p4)), .val (.int (f0_v251 p5)), .val (.int (f0_v261 p5)), .val (.int (f0_s0_274 p5)), .val (.int (f0_s0_287 p5)), .val (.int (f0_s0_300 p5)), .val (.ref b60), .val (.ref b81), .val (.ref b112), .val (.ref b153), .val (.int (f0_v408 p1 p2 p3 p4 p5)), .val (.int (f0_s0_517 p1 p2 p3 p4 p5)), .val (.int (f0_l31_588 p1 p3 p4 p5)), .unset, .unset] [(.int (f0_v251 p5)), (.int ((f0_v42 p1) ((f0_v151 p2)).toNatClampNeg))])) t → Steps p.tables e below (s₁.setTop (entryFrame m #[(.int p1), (.int p2), (.int p3), (.int p4), (.int p5)] maxLocals)) t := by
            intro t k
            refine pre127 t ?_
            refine XS.icmpNo X447.here hx rfl (hb hby at_604) rfl (feq hc604).1 ?_
            show Steps p.tables e below (T447.setTop (mkF m 607 #[.val (.int p1), .val (.int p2), .val (.int p3), .val (.int p4), .val (.int p5), .val (.int ((p1 &&& (3 : Int32)) - (1 : Int32))), .val (.int (f0_v14 p1)), .val (.int (f0_v23 p1)), .val (.ref b6), .val (.ref b18), .val (.ref b37), .val (.int (f0_v151 p2)), .val (.int (f0_v163 p2)), .val (.int (f0_v175 p2)), .val (.int (f0_v184 p3)), .val (.int (f0_v196 p3)), .val (.int (f0_v208 p3)), .val (.int (f0_v217 p4)), .val (.int (f0_v229 p4)), .val (.int (f0_v241 p4)), .val (.int (f0_v251 p5)), .val (.int (f0_v261 p5)), .val (.int (f0_s0_274 p5)), .val (.int (f0_s0_287 p5)), .val (.int (f0_s0_300 p5)), .val (.ref b60), .val (.ref b81), .val (.ref b112), .val (.ref b153), .val (.int (f0_v408 p1 p2 p3 p4 p5)), .val (.int (f0_s0_517 p1 p2 p3 p4 p5)), .val (.int (f0_l31_588 p1 p3 p4 p5)), .unset, .unset] [])) _
            refine XS.aload X447.here hx rfl (hb hby at_607) rfl rfl ?_
            refine XS.iload X447.here hx rfl (hb hby at_609) rfl ?_
            show Steps p.tables e below (T447.setTop (mkF m 611 #[.val (.int p1), .val (.int p2), .val (.int p3), .val (.int p4), .val (.int p5), .val (.int ((p1 &&& (3 : Int32)) - (1 : Int32))), .val (.int (f0_v14 p1)), .val (.int (f0_v23 p1)), .val (.ref b6), .val (.ref b18), .val (.ref b37), .val (.int (f0_v151 p2)), .val (.int (f0_v163 p2)), .val (.int (f0_v175 p2)), .val (.int (f0_v184 p3)), .val (.int (f0_v196 p3)), .val (.int (f0_v208 p3)), .val (.int (f0_v217 p4)), .val (.int (f0_v229 p4)), .val (.int (f0_v241 p4)), .val (.int (f0_v251 p5)), .val (.int (f0_v261 p5)), .val (.int (f0_s0_274 p5)), .val (.int (f0_s0_287 p5)), .val (.int (f0_s0_300 p5)), .val (.ref b60), .val (.ref b81), .val (.ref b112), .val (.ref b153), .val (.int (f0_v408 p1 p2 p3 p4 p5)), .val (.int (f0_s0_517 p1 p2 p3 p4 p5)), .val (.int (f0_l31_588 p1 p3 p4 p5)), .unset, .unset] [(.int (f0_v151 p2)), (.ref b6)])) _
            refine ldI X447 hx hZ e447 c403 (j := (f0_v151 p2)) (own_i3 (own_v151 p2) rfl) (g := (mkF m 611 #[.val (.int p1), .val (.int p2), .val (.int p3), .val (.int p4), .val (.int p5), .val (.int ((p1 &&& (3 : Int32)) - (1 : Int32))), .val (.int (f0_v14 p1)), .val (.int (f0_v23 p1)), .val (.ref b6), .val (.ref b18), .val (.ref b37), .val (.int (f0_v151 p2)), .val (.int (f0_v163 p2)), .val (.int (f0_v175 p2)), .val (.int (f0_v184 p3)), .val (.int (f0_v196 p3)), .val (.int (f0_v208 p3)), .val (.int (f0_v217 p4)), .val (.int (f0_v229 p4)), .val (.int (f0_v241 p4)), .val (.int (f0_v251 p5)), .val (.int (f0_v261 p5)), .val (.int (f0_s0_274 p5)), .val (.int (f0_s0_287 p5)), .val (.int (f0_s0_300 p5)), .val (.ref b60), .val (.ref b81), .val (.ref b112), .val (.ref b153), .val (.int (f0_v408 p1 p2 p3 p4 p5)), .val (.int (f0_s0_517 p1 p2 p3 p4 p5)), .val (.int (f0_l31_588 p1 p3 p4 p5)), .unset, .unset] [(.int (f0_v151 p2)), (.ref b6)])) rfl rfl (hb hby at_611) ?_
            show Steps p.tables e below (T447.setTop (mkF m 612 #[.val (.int p1), .val (.int p2), .val (.int p3), .val (.int p4), .val (.int p5), .val (.int ((p1 &&& (3 : Int32)) - (1 : Int32))), .val (.int (f0_v14 p1)), .val (.int (f0_v23 p1)), .val (.ref b6), .val (.ref b18), .val (.ref b37), .val (.int (f0_v151 p2)), .val (.int (f0_v163 p2)), .val (.int (f0_v175 p2)), .val (.int (f0_v184 p3)), .val (.int (f0_v196 p3)), .val (.int (f0_v208 p3)), .val (.int (f0_v217 p4)), .val (.int (f0_v229 p4)), .val (.int (f0_v241 p4)), .val (.int (f0_v251 p5)), .val (.int (f0_v261 p5)), .val (.int (f0_s0_274 p5)), .val (.int (f0_s0_287 p5)), .val (.int (f0_s0_300 p5)), .val (.ref b60), .val (.ref b81), .val (.ref b112), .val (.ref b153), .val (.int (f0_v408 p1 p2 p3 p4 p5)), .val (.int (f0_s0_517 p1 p2 p3 p4 p5)), .val (.int (f0_l31_588 p1 p3 p4 p5)), .unset, .unset] [(.int ((f0_v42 p1) ((f0_v151 p2)).toNatClampNeg))])) _
            refine XS.iload X447.here hx rfl (hb hby at_612) rfl ?_
            exact k
          by_cases hc614 : ((f0_v42 p1) ((f0_v151 p2)).toNatClampNeg) = (f0_v251 p5)
          · have eq130 := (show (f0_l31_621 p1 p2 p3 p4 p5) = (f0_v175 p2) from by unfold f0_l31_621; simp only [if_neg hc590, if_pos hc597, if_neg hc604, if_pos hc614])
            try rw [eq130] at k
            refine pre129 t ?_
            refine XS.icmpNo X447.here hx rfl (hb hby at_614) rfl (teq hc614).2 ?_
            refine XS.iload X447.here hx rfl (hb hby at_617) rfl ?_
            refine XS.istore X447.here hx rfl (hb hby at_619) rfl (l' := #[.val (.int p1), .val (.int p2), .val (.int p3), .val (.int p4), .val (.int p5), .val (.int ((p1 &&& (3 : Int32)) - (1 : Int32))), .val (.int (f0_v14 p1)), .val (.int (f0_v23 p1)), .val (.ref b6), .val (.ref b18), .val (.ref b37), .val (.int (f0_v151 p2)), .val (.int (f0_v163 p2)), .val (.int (f0_v175 p2)), .val (.int (f0_v184 p3)), .val (.int (f0_v196 p3)), .val (.int (f0_v208 p3)), .val (.int (f0_v217 p4)), .val (.int (f0_v229 p4)), .val (.int (f0_v241 p4)), .val (.int (f0_v251 p5)), .val (.int (f0_v261 p5)), .val (.int (f0_s0_274 p5)), .val (.int (f0_s0_287 p5)), .val (.int (f0_s0_300 p5)), .val (.ref b60), .val (.ref b81), .val (.ref b112), .val (.ref b153), .val (.int (f0_v408 p1 p2 p3 p4 p5)), .val (.int (f0_s0_517 p1 p2 p3 p4 p5)), .val (.int (f0_v175 p2)), .unset, .unset]) rfl ?_
            exact k
          · have eq131 := (show (f0_l31_621 p1 p2 p3 p4 p5) = (f0_l31_588 p1 p3 p4 p5) from by unfold f0_l31_621; simp only [if_neg hc590, if_pos hc597, if_neg hc604, if_neg hc614])
            try rw [eq131] at k
            refine pre129 t ?_
            show Steps p.tables e below (T447.setTop (mkF m 614 #[.val (.int p1), .val (.int p2), .val (.int p3), .val (.int p4), .val (.int p5), .val (.int ((p1 &&& (3 : Int32)) - (1 : Int32))), .val (.int (f0_v14 p1)), .val (.int (f0_v23 p1)), .val (.ref b6), .val (.ref b18), .val (.ref b37), .val (.int (f0_v151 p2)), .val (.int (f0_v163 p2)), .val (.int (f0_v175 p2)), .val (.int (f0_v184 p3)), .val (.int (f0_v196 p3)), .val (.int (f0_v208 p3)), .val (.int (f0_v217 p4)), .val (.int (f0_v229 p4)), .val (.int (f0_v241 p4)), .val (.int (f0_v251 p5)), .val (.int (f0_v261 p5)), .val (.int (f0_s0_274 p5)), .val (.int (f0_s0_287 p5)), .val (.int (f0_s0_300 p5)), .val (.ref b60), .val (.ref b81), .val (.ref b112), .val (.ref b153), .val (.int (f0_v408 p1 p2 p3 p4 p5)), .val (.int (f0_s0_517 p1 p2 p3 p4 p5)), .val (.int (f0_l31_588 p1 p3 p4 p5)), .unset, .unset] [(.int (f0_v251 p5)), (.int ((f0_v42 p1) ((f0_v151 p2)).toNatClampNeg))])) _
            refine XS.icmpYes X447.here hx rfl (pc0 := 614) (pc' := 621) rfl (hb hby at_614) rfl (feq hc614).2 (by decide) (by decide) ?_
            exact k
      · have eq132 := (show (f0_l31_621 p1 p2 p3 p4 p5) = (f0_l31_588 p1 p3 p4 p5) from by unfold f0_l31_621; simp only [if_neg hc590, if_neg hc597])
        try rw [eq132] at k
        refine pre126 t ?_
        refine XS.icmpYes X447.here hx rfl (pc0 := 597) (pc' := 621) rfl (hb hby at_597) rfl (feq hc597).2 (by decide) (by decide) ?_
        exact k
  have pre133 : ∀ t, Steps p.tables e below (T447.setTop (mkF m 626 #[.val (.int p1), .val (.int p2), .val (.int p3), .val (.int p4), .val (.int p5), .val (.int ((p1 &&& (3 : Int32)) - (1 : Int32))), .val (.int (f0_v14 p1)), .val (.int (f0_v23 p1)), .val (.ref b6), .val (.ref b18), .val (.ref b37), .val (.int (f0_v151 p2)), .val (.int (f0_v163 p2)), .val (.int (f0_v175 p2)), .val (.int (f0_v184 p3)), .val (.int (f0_v196 p3)), .val (.int (f0_v208 p3)), .val (.int (f0_v217 p4)), .val (.int (f0_v229 p4)), .val (.int (f0_v241 p4)), .val (.int (f0_v251 p5)), .val (.int (f0_v261 p5)), .val (.int (f0_s0_274 p5)), .val (.int (f0_s0_287 p5)), .val (.int (f0_s0_300 p5)), .val (.ref b60), .val (.ref b81), .val (.ref b112), .val (.ref b153), .val (.int (f0_v408 p1 p2 p3 p4 p5)), .val (.int (f0_s0_517 p1 p2 p3 p4 p5)), .val (.int (f0_l31_621 p1 p2 p3 p4 p5)), .val (.int (-1 : Int32)), .unset] [(.int (f0_s0_300 p5))])) t → Steps p.tables e below (s₁.setTop (entryFrame m #[(.int p1), (.int p2), (.int p3), (.int p4), (.int p5)] maxLocals)) t := by
    intro t k
    refine pre124 t ?_
    refine XS.iconst X447.here hx rfl (hb hby at_621) ?_
    refine XS.istore X447.here hx rfl (hb hby at_622) rfl (l' := #[.val (.int p1), .val (.int p2), .val (.int p3), .val (.int p4), .val (.int p5), .val (.int ((p1 &&& (3 : Int32)) - (1 : Int32))), .val (.int (f0_v14 p1)), .val (.int (f0_v23 p1)), .val (.ref b6), .val (.ref b18), .val (.ref b37), .val (.int (f0_v151 p2)), .val (.int (f0_v163 p2)), .val (.int (f0_v175 p2)), .val (.int (f0_v184 p3)), .val (.int (f0_v196 p3)), .val (.int (f0_v208 p3)), .val (.int (f0_v217 p4)), .val (.int (f0_v229 p4)), .val (.int (f0_v241 p4)), .val (.int (f0_v251 p5)), .val (.int (f0_v261 p5)), .val (.int (f0_s0_274 p5)), .val (.int (f0_s0_287 p5)), .val (.int (f0_s0_300 p5)), .val (.ref b60), .val (.ref b81), .val (.ref b112), .val (.ref b153), .val (.int (f0_v408 p1 p2 p3 p4 p5)), .val (.int (f0_s0_517 p1 p2 p3 p4 p5)), .val (.int (f0_l31_621 p1 p2 p3 p4 p5)), .val (.int (-1 : Int32)), .unset]) rfl ?_
    show Steps p.tables e below (T447.setTop (mkF m 624 #[.val (.int p1), .val (.int p2), .val (.int p3), .val (.int p4), .val (.int p5), .val (.int ((p1 &&& (3 : Int32)) - (1 : Int32))), .val (.int (f0_v14 p1)), .val (.int (f0_v23 p1)), .val (.ref b6), .val (.ref b18), .val (.ref b37), .val (.int (f0_v151 p2)), .val (.int (f0_v163 p2)), .val (.int (f0_v175 p2)), .val (.int (f0_v184 p3)), .val (.int (f0_v196 p3)), .val (.int (f0_v208 p3)), .val (.int (f0_v217 p4)), .val (.int (f0_v229 p4)), .val (.int (f0_v241 p4)), .val (.int (f0_v251 p5)), .val (.int (f0_v261 p5)), .val (.int (f0_s0_274 p5)), .val (.int (f0_s0_287 p5)), .val (.int (f0_s0_300 p5)), .val (.ref b60), .val (.ref b81), .val (.ref b112), .val (.ref b153), .val (.int (f0_v408 p1 p2 p3 p4 p5)), .val (.int (f0_s0_517 p1 p2 p3 p4 p5)), .val (.int (f0_l31_621 p1 p2 p3 p4 p5)), .val (.int (-1 : Int32)), .unset] [])) _
    refine XS.iload X447.here hx rfl (hb hby at_624) rfl ?_
    exact k
  have pre134 : ∀ t, Steps p.tables e below (T447.setTop (mkF m 647 #[.val (.int p1), .val (.int p2), .val (.int p3), .val (.int p4), .val (.int p5), .val (.int ((p1 &&& (3 : Int32)) - (1 : Int32))), .val (.int (f0_v14 p1)), .val (.int (f0_v23 p1)), .val (.ref b6), .val (.ref b18), .val (.ref b37), .val (.int (f0_v151 p2)), .val (.int (f0_v163 p2)), .val (.int (f0_v175 p2)), .val (.int (f0_v184 p3)), .val (.int (f0_v196 p3)), .val (.int (f0_v208 p3)), .val (.int (f0_v217 p4)), .val (.int (f0_v229 p4)), .val (.int (f0_v241 p4)), .val (.int (f0_v251 p5)), .val (.int (f0_v261 p5)), .val (.int (f0_s0_274 p5)), .val (.int (f0_s0_287 p5)), .val (.int (f0_s0_300 p5)), .val (.ref b60), .val (.ref b81), .val (.ref b112), .val (.ref b153), .val (.int (f0_v408 p1 p2 p3 p4 p5)), .val (.int (f0_s0_517 p1 p2 p3 p4 p5)), .val (.int (f0_l31_621 p1 p2 p3 p4 p5)), .val (.int (f0_l32_647 p4 p5)), .unset] [])) t → Steps p.tables e below (s₁.setTop (entryFrame m #[(.int p1), (.int p2), (.int p3), (.int p4), (.int p5)] maxLocals)) t := by
    intro t k
    by_cases hc626 : (f0_s0_300 p5) = (0 : Int32)
    · have eq135 := (show (f0_l32_647 p4 p5) = (-1 : Int32) from by unfold f0_l32_647; simp only [if_pos hc626])
      try rw [eq135] at k
      refine pre133 t ?_
      refine XS.ifYes X447.here hx rfl (pc0 := 626) (pc' := 647) rfl (hb hby at_626) rfl ((if0 _ _).trans (teq hc626).1) (by decide) (by decide) ?_
      exact k
    · have pre136 : ∀ t, Steps p.tables e below (T447.setTop (mkF m 633 #[.val (.int p1), .val (.int p2), .val (.int p3), .val (.int p4), .val (.int p5), .val (.int ((p1 &&& (3 : Int32)) - (1 : Int32))), .val (.int (f0_v14 p1)), .val (.int (f0_v23 p1)), .val (.ref b6), .val (.ref b18), .val (.ref b37), .val (.int (f0_v151 p2)), .val (.int (f0_v163 p2)), .val (.int (f0_v175 p2)), .val (.int (f0_v184 p3)), .val (.int (f0_v196 p3)), .val (.int (f0_v208 p3)), .val (.int (f0_v217 p4)), .val (.int (f0_v229 p4)), .val (.int (f0_v241 p4)), .val (.int (f0_v251 p5)), .val (.int (f0_v261 p5)), .val (.int (f0_s0_274 p5)), .val (.int (f0_s0_287 p5)), .val (.int (f0_s0_300 p5)), .val (.ref b60), .val (.ref b81), .val (.ref b112), .val (.ref b153), .val (.int (f0_v408 p1 p2 p3 p4 p5)), .val (.int (f0_s0_517 p1 p2 p3 p4 p5)), .val (.int (f0_l31_621 p1 p2 p3 p4 p5)), .val (.int (-1 : Int32)), .unset] [(.int (f0_v251 p5)), (.int (f0_v229 p4))])) t → Steps p.tables e below (s₁.setTop (entryFrame m #[(.int p1), (.int p2), (.int p3), (.int p4), (.int p5)] maxLocals)) t := by
        intro t k
        refine pre133 t ?_
        refine XS.ifNo X447.here hx rfl (hb hby at_626) rfl ((if0 _ _).trans (feq hc626).1) ?_
        refine XS.iload X447.here hx rfl (hb hby at_629) rfl ?_
        show Steps p.tables e below (T447.setTop (mkF m 631 #[.val (.int p1), .val (.int p2), .val (.int p3), .val (.int p4), .val (.int p5), .val (.int ((p1 &&& (3 : Int32)) - (1 : Int32))), .val (.int (f0_v14 p1)), .val (.int (f0_v23 p1)), .val (.ref b6), .val (.ref b18), .val (.ref b37), .val (.int (f0_v151 p2)), .val (.int (f0_v163 p2)), .val (.int (f0_v175 p2)), .val (.int (f0_v184 p3)), .val (.int (f0_v196 p3)), .val (.int (f0_v208 p3)), .val (.int (f0_v217 p4)), .val (.int (f0_v229 p4)), .val (.int (f0_v241 p4)), .val (.int (f0_v251 p5)), .val (.int (f0_v261 p5)), .val (.int (f0_s0_274 p5)), .val (.int (f0_s0_287 p5)), .val (.int (f0_s0_300 p5)), .val (.ref b60), .val (.ref b81), .val (.ref b112), .val (.ref b153), .val (.int (f0_v408 p1 p2 p3 p4 p5)), .val (.int (f0_s0_517 p1 p2 p3 p4 p5)), .val (.int (f0_l31_621 p1 p2 p3 p4 p5)), .val (.int (-1 : Int32)), .unset] [(.int (f0_v229 p4))])) _
        refine XS.iload X447.here hx rfl (hb hby at_631) rfl ?_
        exact k
      by_cases hc633 : (f0_v229 p4) = (f0_v251 p5)
      · have pre137 : ∀ t, Steps p.tables e below (T447.setTop (mkF m 640 #[.val (.int p1), .val (.int p2), .val (.int p3), .val (.int p4), .val (.int p5), .val (.int ((p1 &&& (3 : Int32)) - (1 : Int32))), .val (.int (f0_v14 p1)), .val (.int (f0_v23 p1)), .val (.ref b6), .val (.ref b18), .val (.ref b37), .val (.int (f0_v151 p2)), .val (.int (f0_v163 p2)), .val (.int (f0_v175 p2)), .val (.int (f0_v184 p3)), .val (.int (f0_v196 p3)), .val (.int (f0_v208 p3)), .val (.int (f0_v217 p4)), .val (.int (f0_v229 p4)), .val (.int (f0_v241 p4)), .val (.int (f0_v251 p5)), .val (.int (f0_v261 p5)), .val (.int (f0_s0_274 p5)), .val (.int (f0_s0_287 p5)), .val (.int (f0_s0_300 p5)), .val (.ref b60), .val (.ref b81), .val (.ref b112), .val (.ref b153), .val (.int (f0_v408 p1 p2 p3 p4 p5)), .val (.int (f0_s0_517 p1 p2 p3 p4 p5)), .val (.int (f0_l31_621 p1 p2 p3 p4 p5)), .val (.int (-1 : Int32)), .unset] [(.int (f0_v251 p5)), (.int (f0_v241 p4))])) t → Steps p.tables e below (s₁.setTop (entryFrame m #[(.int p1), (.int p2), (.int p3), (.int p4), (.int p5)] maxLocals)) t := by
          intro t k
          refine pre136 t ?_
          refine XS.icmpNo X447.here hx rfl (hb hby at_633) rfl (teq hc633).2 ?_
          refine XS.iload X447.here hx rfl (hb hby at_636) rfl ?_
          refine XS.iload X447.here hx rfl (hb hby at_638) rfl ?_
          exact k
        by_cases hc640 : (f0_v241 p4) = (f0_v251 p5)
        · have eq138 := (show (f0_l32_647 p4 p5) = (-1 : Int32) from by unfold f0_l32_647; simp only [if_neg hc626, if_pos hc633, if_pos hc640])
          try rw [eq138] at k
          refine pre137 t ?_
          show Steps p.tables e below (T447.setTop (mkF m 640 #[.val (.int p1), .val (.int p2), .val (.int p3), .val (.int p4), .val (.int p5), .val (.int ((p1 &&& (3 : Int32)) - (1 : Int32))), .val (.int (f0_v14 p1)), .val (.int (f0_v23 p1)), .val (.ref b6), .val (.ref b18), .val (.ref b37), .val (.int (f0_v151 p2)), .val (.int (f0_v163 p2)), .val (.int (f0_v175 p2)), .val (.int (f0_v184 p3)), .val (.int (f0_v196 p3)), .val (.int (f0_v208 p3)), .val (.int (f0_v217 p4)), .val (.int (f0_v229 p4)), .val (.int (f0_v241 p4)), .val (.int (f0_v251 p5)), .val (.int (f0_v261 p5)), .val (.int (f0_s0_274 p5)), .val (.int (f0_s0_287 p5)), .val (.int (f0_s0_300 p5)), .val (.ref b60), .val (.ref b81), .val (.ref b112), .val (.ref b153), .val (.int (f0_v408 p1 p2 p3 p4 p5)), .val (.int (f0_s0_517 p1 p2 p3 p4 p5)), .val (.int (f0_l31_621 p1 p2 p3 p4 p5)), .val (.int (-1 : Int32)), .unset] [(.int (f0_v251 p5)), (.int (f0_v241 p4))])) _
          refine XS.icmpYes X447.here hx rfl (pc0 := 640) (pc' := 647) rfl (hb hby at_640) rfl (teq hc640).1 (by decide) (by decide) ?_
          exact k
        · have eq139 := (show (f0_l32_647 p4 p5) = (f0_v241 p4) from by unfold f0_l32_647; simp only [if_neg hc626, if_pos hc633, if_neg hc640])
          try rw [eq139] at k
          refine pre137 t ?_
          refine XS.icmpNo X447.here hx rfl (hb hby at_640) rfl (feq hc640).1 ?_
          refine XS.iload X447.here hx rfl (hb hby at_643) rfl ?_
          refine XS.istore X447.here hx rfl (hb hby at_645) rfl (l' := #[.val (.int p1), .val (.int p2), .val (.int p3), .val (.int p4), .val (.int p5), .val (.int ((p1 &&& (3 : Int32)) - (1 : Int32))), .val (.int (f0_v14 p1)), .val (.int (f0_v23 p1)), .val (.ref b6), .val (.ref b18), .val (.ref b37), .val (.int (f0_v151 p2)), .val (.int (f0_v163 p2)), .val (.int (f0_v175 p2)), .val (.int (f0_v184 p3)), .val (.int (f0_v196 p3)), .val (.int (f0_v208 p3)), .val (.int (f0_v217 p4)), .val (.int (f0_v229 p4)), .val (.int (f0_v241 p4)), .val (.int (f0_v251 p5)), .val (.int (f0_v261 p5)), .val (.int (f0_s0_274 p5)), .val (.int (f0_s0_287 p5)), .val (.int (f0_s0_300 p5)), .val (.ref b60), .val (.ref b81), .val (.ref b112), .val (.ref b153), .val (.int (f0_v408 p1 p2 p3 p4 p5)), .val (.int (f0_s0_517 p1 p2 p3 p4 p5)), .val (.int (f0_l31_621 p1 p2 p3 p4 p5)), .val (.int (f0_v241 p4)), .unset]) rfl ?_
          exact k
      · have eq140 := (show (f0_l32_647 p4 p5) = (-1 : Int32) from by unfold f0_l32_647; simp only [if_neg hc626, if_neg hc633])
        try rw [eq140] at k
        refine pre136 t ?_
        show Steps p.tables e below (T447.setTop (mkF m 633 #[.val (.int p1), .val (.int p2), .val (.int p3), .val (.int p4), .val (.int p5), .val (.int ((p1 &&& (3 : Int32)) - (1 : Int32))), .val (.int (f0_v14 p1)), .val (.int (f0_v23 p1)), .val (.ref b6), .val (.ref b18), .val (.ref b37), .val (.int (f0_v151 p2)), .val (.int (f0_v163 p2)), .val (.int (f0_v175 p2)), .val (.int (f0_v184 p3)), .val (.int (f0_v196 p3)), .val (.int (f0_v208 p3)), .val (.int (f0_v217 p4)), .val (.int (f0_v229 p4)), .val (.int (f0_v241 p4)), .val (.int (f0_v251 p5)), .val (.int (f0_v261 p5)), .val (.int (f0_s0_274 p5)), .val (.int (f0_s0_287 p5)), .val (.int (f0_s0_300 p5)), .val (.ref b60), .val (.ref b81), .val (.ref b112), .val (.ref b153), .val (.int (f0_v408 p1 p2 p3 p4 p5)), .val (.int (f0_s0_517 p1 p2 p3 p4 p5)), .val (.int (f0_l31_621 p1 p2 p3 p4 p5)), .val (.int (-1 : Int32)), .unset] [(.int (f0_v251 p5)), (.int (f0_v229 p4))])) _
        refine XS.icmpYes X447.here hx rfl (pc0 := 633) (pc' := 647) rfl (hb hby at_633) rfl (feq hc633).2 (by decide) (by decide) ?_
        exact k
  have pre141 : ∀ t, Steps p.tables e below (T447.setTop (mkF m 649 #[.val (.int p1), .val (.int p2), .val (.int p3), .val (.int p4), .val (.int p5), .val (.int ((p1 &&& (3 : Int32)) - (1 : Int32))), .val (.int (f0_v14 p1)), .val (.int (f0_v23 p1)), .val (.ref b6), .val (.ref b18), .val (.ref b37), .val (.int (f0_v151 p2)), .val (.int (f0_v163 p2)), .val (.int (f0_v175 p2)), .val (.int (f0_v184 p3)), .val (.int (f0_v196 p3)), .val (.int (f0_v208 p3)), .val (.int (f0_v217 p4)), .val (.int (f0_v229 p4)), .val (.int (f0_v241 p4)), .val (.int (f0_v251 p5)), .val (.int (f0_v261 p5)), .val (.int (f0_s0_274 p5)), .val (.int (f0_s0_287 p5)), .val (.int (f0_s0_300 p5)), .val (.ref b60), .val (.ref b81), .val (.ref b112), .val (.ref b153), .val (.int (f0_v408 p1 p2 p3 p4 p5)), .val (.int (f0_s0_517 p1 p2 p3 p4 p5)), .val (.int (f0_l31_621 p1 p2 p3 p4 p5)), .val (.int (f0_l32_647 p4 p5)), .unset] [(.int (f0_s0_287 p5))])) t → Steps p.tables e below (s₁.setTop (entryFrame m #[(.int p1), (.int p2), (.int p3), (.int p4), (.int p5)] maxLocals)) t := by
    intro t k
    refine pre134 t ?_
    refine XS.iload X447.here hx rfl (hb hby at_647) rfl ?_
    exact k
  have pre142 : ∀ t, Steps p.tables e below (T447.setTop (mkF m 670 #[.val (.int p1), .val (.int p2), .val (.int p3), .val (.int p4), .val (.int p5), .val (.int ((p1 &&& (3 : Int32)) - (1 : Int32))), .val (.int (f0_v14 p1)), .val (.int (f0_v23 p1)), .val (.ref b6), .val (.ref b18), .val (.ref b37), .val (.int (f0_v151 p2)), .val (.int (f0_v163 p2)), .val (.int (f0_v175 p2)), .val (.int (f0_v184 p3)), .val (.int (f0_v196 p3)), .val (.int (f0_v208 p3)), .val (.int (f0_v217 p4)), .val (.int (f0_v229 p4)), .val (.int (f0_v241 p4)), .val (.int (f0_v251 p5)), .val (.int (f0_v261 p5)), .val (.int (f0_s0_274 p5)), .val (.int (f0_s0_287 p5)), .val (.int (f0_s0_300 p5)), .val (.ref b60), .val (.ref b81), .val (.ref b112), .val (.ref b153), .val (.int (f0_v408 p1 p2 p3 p4 p5)), .val (.int (f0_s0_517 p1 p2 p3 p4 p5)), .val (.int (f0_l31_621 p1 p2 p3 p4 p5)), .val (.int (f0_l32_670 p3 p4 p5)), .unset] [])) t → Steps p.tables e below (s₁.setTop (entryFrame m #[(.int p1), (.int p2), (.int p3), (.int p4), (.int p5)] maxLocals)) t := by
    intro t k
    by_cases hc649 : (f0_s0_287 p5) = (0 : Int32)
    · have eq143 := (show (f0_l32_670 p3 p4 p5) = (f0_l32_647 p4 p5) from by unfold f0_l32_670; simp only [if_pos hc649])
      try rw [eq143] at k
      refine pre141 t ?_
      refine XS.ifYes X447.here hx rfl (pc0 := 649) (pc' := 670) rfl (hb hby at_649) rfl ((if0 _ _).trans (teq hc649).1) (by decide) (by decide) ?_
      exact k
    · have pre144 : ∀ t, Steps p.tables e below (T447.setTop (mkF m 656 #[.val (.int p1), .val (.int p2), .val (.int p3), .val (.int p4), .val (.int p5), .val (.int ((p1 &&& (3 : Int32)) - (1 : Int32))), .val (.int (f0_v14 p1)), .val (.int (f0_v23 p1)), .val (.ref b6), .val (.ref b18), .val (.ref b37), .val (.int (f0_v151 p2)), .val (.int (f0_v163 p2)), .val (.int (f0_v175 p2)), .val (.int (f0_v184 p3)), .val (.int (f0_v196 p3)), .val (.int (f0_v208 p3)), .val (.int (f0_v217 p4)), .val (.int (f0_v229 p4)), .val (.int (f0_v241 p4)), .val (.int (f0_v251 p5)), .val (.int (f0_v261 p5)), .val (.int (f0_s0_274 p5)), .val (.int (f0_s0_287 p5)), .val (.int (f0_s0_300 p5)), .val (.ref b60), .val (.ref b81), .val (.ref b112), .val (.ref b153), .val (.int (f0_v408 p1 p2 p3 p4 p5)), .val (.int (f0_s0_517 p1 p2 p3 p4 p5)), .val (.int (f0_l31_621 p1 p2 p3 p4 p5)), .val (.int (f0_l32_647 p4 p5)), .unset] [(.int (f0_v251 p5)), (.int (f0_v196 p3))])) t → Steps p.tables e below (s₁.setTop (entryFrame m #[(.int p1), (.int p2), (.int p3), (.int p4), (.int p5)] maxLocals)) t := by
        intro t k
        refine pre141 t ?_
        refine XS.ifNo X447.here hx rfl (hb hby at_649) rfl ((if0 _ _).trans (feq hc649).1) ?_
        show Steps p.tables e below (T447.setTop (mkF m 652 #[.val (.int p1), .val (.int p2), .val (.int p3), .val (.int p4), .val (.int p5), .val (.int ((p1 &&& (3 : Int32)) - (1 : Int32))), .val (.int (f0_v14 p1)), .val (.int (f0_v23 p1)), .val (.ref b6), .val (.ref b18), .val (.ref b37), .val (.int (f0_v151 p2)), .val (.int (f0_v163 p2)), .val (.int (f0_v175 p2)), .val (.int (f0_v184 p3)), .val (.int (f0_v196 p3)), .val (.int (f0_v208 p3)), .val (.int (f0_v217 p4)), .val (.int (f0_v229 p4)), .val (.int (f0_v241 p4)), .val (.int (f0_v251 p5)), .val (.int (f0_v261 p5)), .val (.int (f0_s0_274 p5)), .val (.int (f0_s0_287 p5)), .val (.int (f0_s0_300 p5)), .val (.ref b60), .val (.ref b81), .val (.ref b112), .val (.ref b153), .val (.int (f0_v408 p1 p2 p3 p4 p5)), .val (.int (f0_s0_517 p1 p2 p3 p4 p5)), .val (.int (f0_l31_621 p1 p2 p3 p4 p5)), .val (.int (f0_l32_647 p4 p5)), .unset] [])) _
        refine XS.iload X447.here hx rfl (hb hby at_652) rfl ?_
        refine XS.iload X447.here hx rfl (hb hby at_654) rfl ?_
        exact k
      by_cases hc656 : (f0_v196 p3) = (f0_v251 p5)
      · have pre145 : ∀ t, Steps p.tables e below (T447.setTop (mkF m 663 #[.val (.int p1), .val (.int p2), .val (.int p3), .val (.int p4), .val (.int p5), .val (.int ((p1 &&& (3 : Int32)) - (1 : Int32))), .val (.int (f0_v14 p1)), .val (.int (f0_v23 p1)), .val (.ref b6), .val (.ref b18), .val (.ref b37), .val (.int (f0_v151 p2)), .val (.int (f0_v163 p2)), .val (.int (f0_v175 p2)), .val (.int (f0_v184 p3)), .val (.int (f0_v196 p3)), .val (.int (f0_v208 p3)), .val (.int (f0_v217 p4)), .val (.int (f0_v229 p4)), .val (.int (f0_v241 p4)), .val (.int (f0_v251 p5)), .val (.int (f0_v261 p5)), .val (.int (f0_s0_274 p5)), .val (.int (f0_s0_287 p5)), .val (.int (f0_s0_300 p5)), .val (.ref b60), .val (.ref b81), .val (.ref b112), .val (.ref b153), .val (.int (f0_v408 p1 p2 p3 p4 p5)), .val (.int (f0_s0_517 p1 p2 p3 p4 p5)), .val (.int (f0_l31_621 p1 p2 p3 p4 p5)), .val (.int (f0_l32_647 p4 p5)), .unset] [(.int (f0_v251 p5)), (.int (f0_v208 p3))])) t → Steps p.tables e below (s₁.setTop (entryFrame m #[(.int p1), (.int p2), (.int p3), (.int p4), (.int p5)] maxLocals)) t := by
          intro t k
          refine pre144 t ?_
          refine XS.icmpNo X447.here hx rfl (hb hby at_656) rfl (teq hc656).2 ?_
          refine XS.iload X447.here hx rfl (hb hby at_659) rfl ?_
          show Steps p.tables e below (T447.setTop (mkF m 661 #[.val (.int p1), .val (.int p2), .val (.int p3), .val (.int p4), .val (.int p5), .val (.int ((p1 &&& (3 : Int32)) - (1 : Int32))), .val (.int (f0_v14 p1)), .val (.int (f0_v23 p1)), .val (.ref b6), .val (.ref b18), .val (.ref b37), .val (.int (f0_v151 p2)), .val (.int (f0_v163 p2)), .val (.int (f0_v175 p2)), .val (.int (f0_v184 p3)), .val (.int (f0_v196 p3)), .val (.int (f0_v208 p3)), .val (.int (f0_v217 p4)), .val (.int (f0_v229 p4)), .val (.int (f0_v241 p4)), .val (.int (f0_v251 p5)), .val (.int (f0_v261 p5)), .val (.int (f0_s0_274 p5)), .val (.int (f0_s0_287 p5)), .val (.int (f0_s0_300 p5)), .val (.ref b60), .val (.ref b81), .val (.ref b112), .val (.ref b153), .val (.int (f0_v408 p1 p2 p3 p4 p5)), .val (.int (f0_s0_517 p1 p2 p3 p4 p5)), .val (.int (f0_l31_621 p1 p2 p3 p4 p5)), .val (.int (f0_l32_647 p4 p5)), .unset] [(.int (f0_v208 p3))])) _
          refine XS.iload X447.here hx rfl (hb hby at_661) rfl ?_
          exact k
        by_cases hc663 : (f0_v208 p3) = (f0_v251 p5)
        · have eq146 := (show (f0_l32_670 p3 p4 p5) = (f0_l32_647 p4 p5) from by unfold f0_l32_670; simp only [if_neg hc649, if_pos hc656, if_pos hc663])
          try rw [eq146] at k
          refine pre145 t ?_
          refine XS.icmpYes X447.here hx rfl (pc0 := 663) (pc' := 670) rfl (hb hby at_663) rfl (teq hc663).1 (by decide) (by decide) ?_
          exact k
        · have eq147 := (show (f0_l32_670 p3 p4 p5) = (f0_v208 p3) from by unfold f0_l32_670; simp only [if_neg hc649, if_pos hc656, if_neg hc663])
          try rw [eq147] at k
          refine pre145 t ?_
          refine XS.icmpNo X447.here hx rfl (hb hby at_663) rfl (feq hc663).1 ?_
          refine XS.iload X447.here hx rfl (hb hby at_666) rfl ?_
          show Steps p.tables e below (T447.setTop (mkF m 668 #[.val (.int p1), .val (.int p2), .val (.int p3), .val (.int p4), .val (.int p5), .val (.int ((p1 &&& (3 : Int32)) - (1 : Int32))), .val (.int (f0_v14 p1)), .val (.int (f0_v23 p1)), .val (.ref b6), .val (.ref b18), .val (.ref b37), .val (.int (f0_v151 p2)), .val (.int (f0_v163 p2)), .val (.int (f0_v175 p2)), .val (.int (f0_v184 p3)), .val (.int (f0_v196 p3)), .val (.int (f0_v208 p3)), .val (.int (f0_v217 p4)), .val (.int (f0_v229 p4)), .val (.int (f0_v241 p4)), .val (.int (f0_v251 p5)), .val (.int (f0_v261 p5)), .val (.int (f0_s0_274 p5)), .val (.int (f0_s0_287 p5)), .val (.int (f0_s0_300 p5)), .val (.ref b60), .val (.ref b81), .val (.ref b112), .val (.ref b153), .val (.int (f0_v408 p1 p2 p3 p4 p5)), .val (.int (f0_s0_517 p1 p2 p3 p4 p5)), .val (.int (f0_l31_621 p1 p2 p3 p4 p5)), .val (.int (f0_l32_647 p4 p5)), .unset] [(.int (f0_v208 p3))])) _
          refine XS.istore X447.here hx rfl (hb hby at_668) rfl (l' := #[.val (.int p1), .val (.int p2), .val (.int p3), .val (.int p4), .val (.int p5), .val (.int ((p1 &&& (3 : Int32)) - (1 : Int32))), .val (.int (f0_v14 p1)), .val (.int (f0_v23 p1)), .val (.ref b6), .val (.ref b18), .val (.ref b37), .val (.int (f0_v151 p2)), .val (.int (f0_v163 p2)), .val (.int (f0_v175 p2)), .val (.int (f0_v184 p3)), .val (.int (f0_v196 p3)), .val (.int (f0_v208 p3)), .val (.int (f0_v217 p4)), .val (.int (f0_v229 p4)), .val (.int (f0_v241 p4)), .val (.int (f0_v251 p5)), .val (.int (f0_v261 p5)), .val (.int (f0_s0_274 p5)), .val (.int (f0_s0_287 p5)), .val (.int (f0_s0_300 p5)), .val (.ref b60), .val (.ref b81), .val (.ref b112), .val (.ref b153), .val (.int (f0_v408 p1 p2 p3 p4 p5)), .val (.int (f0_s0_517 p1 p2 p3 p4 p5)), .val (.int (f0_l31_621 p1 p2 p3 p4 p5)), .val (.int (f0_v208 p3)), .unset]) rfl ?_
          exact k
      · have eq148 := (show (f0_l32_670 p3 p4 p5) = (f0_l32_647 p4 p5) from by unfold f0_l32_670; simp only [if_neg hc649, if_neg hc656])
        try rw [eq148] at k
        refine pre144 t ?_
        refine XS.icmpYes X447.here hx rfl (pc0 := 656) (pc' := 670) rfl (hb hby at_656) rfl (feq hc656).2 (by decide) (by decide) ?_
        exact k
  have pre149 : ∀ t, Steps p.tables e below (T447.setTop (mkF m 672 #[.val (.int p1), .val (.int p2), .val (.int p3), .val (.int p4), .val (.int p5), .val (.int ((p1 &&& (3 : Int32)) - (1 : Int32))), .val (.int (f0_v14 p1)), .val (.int (f0_v23 p1)), .val (.ref b6), .val (.ref b18), .val (.ref b37), .val (.int (f0_v151 p2)), .val (.int (f0_v163 p2)), .val (.int (f0_v175 p2)), .val (.int (f0_v184 p3)), .val (.int (f0_v196 p3)), .val (.int (f0_v208 p3)), .val (.int (f0_v217 p4)), .val (.int (f0_v229 p4)), .val (.int (f0_v241 p4)), .val (.int (f0_v251 p5)), .val (.int (f0_v261 p5)), .val (.int (f0_s0_274 p5)), .val (.int (f0_s0_287 p5)), .val (.int (f0_s0_300 p5)), .val (.ref b60), .val (.ref b81), .val (.ref b112), .val (.ref b153), .val (.int (f0_v408 p1 p2 p3 p4 p5)), .val (.int (f0_s0_517 p1 p2 p3 p4 p5)), .val (.int (f0_l31_621 p1 p2 p3 p4 p5)), .val (.int (f0_l32_670 p3 p4 p5)), .unset] [(.int (f0_s0_274 p5))])) t → Steps p.tables e below (s₁.setTop (entryFrame m #[(.int p1), (.int p2), (.int p3), (.int p4), (.int p5)] maxLocals)) t := by
    intro t k
    refine pre142 t ?_
    refine XS.iload X447.here hx rfl (hb hby at_670) rfl ?_
    exact k
  have pre150 : ∀ t, Steps p.tables e below (T447.setTop (mkF m 693 #[.val (.int p1), .val (.int p2), .val (.int p3), .val (.int p4), .val (.int p5), .val (.int ((p1 &&& (3 : Int32)) - (1 : Int32))), .val (.int (f0_v14 p1)), .val (.int (f0_v23 p1)), .val (.ref b6), .val (.ref b18), .val (.ref b37), .val (.int (f0_v151 p2)), .val (.int (f0_v163 p2)), .val (.int (f0_v175 p2)), .val (.int (f0_v184 p3)), .val (.int (f0_v196 p3)), .val (.int (f0_v208 p3)), .val (.int (f0_v217 p4)), .val (.int (f0_v229 p4)), .val (.int (f0_v241 p4)), .val (.int (f0_v251 p5)), .val (.int (f0_v261 p5)), .val (.int (f0_s0_274 p5)), .val (.int (f0_s0_287 p5)), .val (.int (f0_s0_300 p5)), .val (.ref b60), .val (.ref b81), .val (.ref b112), .val (.ref b153), .val (.int (f0_v408 p1 p2 p3 p4 p5)), .val (.int (f0_s0_517 p1 p2 p3 p4 p5)), .val (.int (f0_l31_621 p1 p2 p3 p4 p5)), .val (.int (f0_l32_693 p2 p3 p4 p5)), .unset] [])) t → Steps p.tables e below (s₁.setTop (entryFrame m #[(.int p1), (.int p2), (.int p3), (.int p4), (.int p5)] maxLocals)) t := by
    intro t k
    by_cases hc672 : (f0_s0_274 p5) = (0 : Int32)
    · have eq151 := (show (f0_l32_693 p2 p3 p4 p5) = (f0_l32_670 p3 p4 p5) from by unfold f0_l32_693; simp only [if_pos hc672])
      try rw [eq151] at k
      refine pre149 t ?_
      refine XS.ifYes X447.here hx rfl (pc0 := 672) (pc' := 693) rfl (hb hby at_672) rfl ((if0 _ _).trans (teq hc672).1) (by decide) (by decide) ?_
      exact k
    · have pre152 : ∀ t, Steps p.tables e below (T447.setTop (mkF m 679 #[.val (.int p1), .val (.int p2), .val (.int p3), .val (.int p4), .val (.int p5), .val (.int ((p1 &&& (3 : Int32)) - (1 : Int32))), .val (.int (f0_v14 p1)), .val (.int (f0_v23 p1)), .val (.ref b6), .val (.ref b18), .val (.ref b37), .val (.int (f0_v151 p2)), .val (.int (f0_v163 p2)), .val (.int (f0_v175 p2)), .val (.int (f0_v184 p3)), .val (.int (f0_v196 p3)), .val (.int (f0_v208 p3)), .val (.int (f0_v217 p4)), .val (.int (f0_v229 p4)), .val (.int (f0_v241 p4)), .val (.int (f0_v251 p5)), .val (.int (f0_v261 p5)), .val (.int (f0_s0_274 p5)), .val (.int (f0_s0_287 p5)), .val (.int (f0_s0_300 p5)), .val (.ref b60), .val (.ref b81), .val (.ref b112), .val (.ref b153), .val (.int (f0_v408 p1 p2 p3 p4 p5)), .val (.int (f0_s0_517 p1 p2 p3 p4 p5)), .val (.int (f0_l31_621 p1 p2 p3 p4 p5)), .val (.int (f0_l32_670 p3 p4 p5)), .unset] [(.int (f0_v251 p5)), (.int (f0_v163 p2))])) t → Steps p.tables e below (s₁.setTop (entryFrame m #[(.int p1), (.int p2), (.int p3), (.int p4), (.int p5)] maxLocals)) t := by
        intro t k
        refine pre149 t ?_
        show Steps p.tables e below (T447.setTop (mkF m 672 #[.val (.int p1), .val (.int p2), .val (.int p3), .val (.int p4), .val (.int p5), .val (.int ((p1 &&& (3 : Int32)) - (1 : Int32))), .val (.int (f0_v14 p1)), .val (.int (f0_v23 p1)), .val (.ref b6), .val (.ref b18), .val (.ref b37), .val (.int (f0_v151 p2)), .val (.int (f0_v163 p2)), .val (.int (f0_v175 p2)), .val (.int (f0_v184 p3)), .val (.int (f0_v196 p3)), .val (.int (f0_v208 p3)), .val (.int (f0_v217 p4)), .val (.int (f0_v229 p4)), .val (.int (f0_v241 p4)), .val (.int (f0_v251 p5)), .val (.int (f0_v261 p5)), .val (.int (f0_s0_274 p5)), .val (.int (f0_s0_287 p5)), .val (.int (f0_s0_300 p5)), .val (.ref b60), .val (.ref b81), .val (.ref b112), .val (.ref b153), .val (.int (f0_v408 p1 p2 p3 p4 p5)), .val (.int (f0_s0_517 p1 p2 p3 p4 p5)), .val (.int (f0_l31_621 p1 p2 p3 p4 p5)), .val (.int (f0_l32_670 p3 p4 p5)), .unset] [(.int (f0_s0_274 p5))])) _
        refine XS.ifNo X447.here hx rfl (hb hby at_672) rfl ((if0 _ _).trans (feq hc672).1) ?_
        refine XS.iload X447.here hx rfl (hb hby at_675) rfl ?_
        refine XS.iload X447.here hx rfl (hb hby at_677) rfl ?_
        exact k
      by_cases hc679 : (f0_v163 p2) = (f0_v251 p5)
      · have pre153 : ∀ t, Steps p.tables e below (T447.setTop (mkF m 686 #[.val (.int p1), .val (.int p2), .val (.int p3), .val (.int p4), .val (.int p5), .val (.int ((p1 &&& (3 : Int32)) - (1 : Int32))), .val (.int (f0_v14 p1)), .val (.int (f0_v23 p1)), .val (.ref b6), .val (.ref b18), .val (.ref b37), .val (.int (f0_v151 p2)), .val (.int (f0_v163 p2)), .val (.int (f0_v175 p2)), .val (.int (f0_v184 p3)), .val (.int (f0_v196 p3)), .val (.int (f0_v208 p3)), .val (.int (f0_v217 p4)), .val (.int (f0_v229 p4)), .val (.int (f0_v241 p4)), .val (.int (f0_v251 p5)), .val (.int (f0_v261 p5)), .val (.int (f0_s0_274 p5)), .val (.int (f0_s0_287 p5)), .val (.int (f0_s0_300 p5)), .val (.ref b60), .val (.ref b81), .val (.ref b112), .val (.ref b153), .val (.int (f0_v408 p1 p2 p3 p4 p5)), .val (.int (f0_s0_517 p1 p2 p3 p4 p5)), .val (.int (f0_l31_621 p1 p2 p3 p4 p5)), .val (.int (f0_l32_670 p3 p4 p5)), .unset] [(.int (f0_v251 p5)), (.int (f0_v175 p2))])) t → Steps p.tables e below (s₁.setTop (entryFrame m #[(.int p1), (.int p2), (.int p3), (.int p4), (.int p5)] maxLocals)) t := by
          intro t k
          refine pre152 t ?_
          refine XS.icmpNo X447.here hx rfl (hb hby at_679) rfl (teq hc679).2 ?_
          show Steps p.tables e below (T447.setTop (mkF m 682 #[.val (.int p1), .val (.int p2), .val (.int p3), .val (.int p4), .val (.int p5), .val (.int ((p1 &&& (3 : Int32)) - (1 : Int32))), .val (.int (f0_v14 p1)), .val (.int (f0_v23 p1)), .val (.ref b6), .val (.ref b18), .val (.ref b37), .val (.int (f0_v151 p2)), .val (.int (f0_v163 p2)), .val (.int (f0_v175 p2)), .val (.int (f0_v184 p3)), .val (.int (f0_v196 p3)), .val (.int (f0_v208 p3)), .val (.int (f0_v217 p4)), .val (.int (f0_v229 p4)), .val (.int (f0_v241 p4)), .val (.int (f0_v251 p5)), .val (.int (f0_v261 p5)), .val (.int (f0_s0_274 p5)), .val (.int (f0_s0_287 p5)), .val (.int (f0_s0_300 p5)), .val (.ref b60), .val (.ref b81), .val (.ref b112), .val (.ref b153), .val (.int (f0_v408 p1 p2 p3 p4 p5)), .val (.int (f0_s0_517 p1 p2 p3 p4 p5)), .val (.int (f0_l31_621 p1 p2 p3 p4 p5)), .val (.int (f0_l32_670 p3 p4 p5)), .unset] [])) _
          refine XS.iload X447.here hx rfl (hb hby at_682) rfl ?_
          refine XS.iload X447.here hx rfl (hb hby at_684) rfl ?_
          exact k
        by_cases hc686 : (f0_v175 p2) = (f0_v251 p5)
        · have eq154 := (show (f0_l32_693 p2 p3 p4 p5) = (f0_l32_670 p3 p4 p5) from by unfold f0_l32_693; simp only [if_neg hc672, if_pos hc679, if_pos hc686])
          try rw [eq154] at k
          refine pre153 t ?_
          refine XS.icmpYes X447.here hx rfl (pc0 := 686) (pc' := 693) rfl (hb hby at_686) rfl (teq hc686).1 (by decide) (by decide) ?_
          exact k
        · have eq155 := (show (f0_l32_693 p2 p3 p4 p5) = (f0_v175 p2) from by unfold f0_l32_693; simp only [if_neg hc672, if_pos hc679, if_neg hc686])
          try rw [eq155] at k
          refine pre153 t ?_
          refine XS.icmpNo X447.here hx rfl (hb hby at_686) rfl (feq hc686).1 ?_
          show Steps p.tables e below (T447.setTop (mkF m 689 #[.val (.int p1), .val (.int p2), .val (.int p3), .val (.int p4), .val (.int p5), .val (.int ((p1 &&& (3 : Int32)) - (1 : Int32))), .val (.int (f0_v14 p1)), .val (.int (f0_v23 p1)), .val (.ref b6), .val (.ref b18), .val (.ref b37), .val (.int (f0_v151 p2)), .val (.int (f0_v163 p2)), .val (.int (f0_v175 p2)), .val (.int (f0_v184 p3)), .val (.int (f0_v196 p3)), .val (.int (f0_v208 p3)), .val (.int (f0_v217 p4)), .val (.int (f0_v229 p4)), .val (.int (f0_v241 p4)), .val (.int (f0_v251 p5)), .val (.int (f0_v261 p5)), .val (.int (f0_s0_274 p5)), .val (.int (f0_s0_287 p5)), .val (.int (f0_s0_300 p5)), .val (.ref b60), .val (.ref b81), .val (.ref b112), .val (.ref b153), .val (.int (f0_v408 p1 p2 p3 p4 p5)), .val (.int (f0_s0_517 p1 p2 p3 p4 p5)), .val (.int (f0_l31_621 p1 p2 p3 p4 p5)), .val (.int (f0_l32_670 p3 p4 p5)), .unset] [])) _
          refine XS.iload X447.here hx rfl (hb hby at_689) rfl ?_
          refine XS.istore X447.here hx rfl (hb hby at_691) rfl (l' := #[.val (.int p1), .val (.int p2), .val (.int p3), .val (.int p4), .val (.int p5), .val (.int ((p1 &&& (3 : Int32)) - (1 : Int32))), .val (.int (f0_v14 p1)), .val (.int (f0_v23 p1)), .val (.ref b6), .val (.ref b18), .val (.ref b37), .val (.int (f0_v151 p2)), .val (.int (f0_v163 p2)), .val (.int (f0_v175 p2)), .val (.int (f0_v184 p3)), .val (.int (f0_v196 p3)), .val (.int (f0_v208 p3)), .val (.int (f0_v217 p4)), .val (.int (f0_v229 p4)), .val (.int (f0_v241 p4)), .val (.int (f0_v251 p5)), .val (.int (f0_v261 p5)), .val (.int (f0_s0_274 p5)), .val (.int (f0_s0_287 p5)), .val (.int (f0_s0_300 p5)), .val (.ref b60), .val (.ref b81), .val (.ref b112), .val (.ref b153), .val (.int (f0_v408 p1 p2 p3 p4 p5)), .val (.int (f0_s0_517 p1 p2 p3 p4 p5)), .val (.int (f0_l31_621 p1 p2 p3 p4 p5)), .val (.int (f0_v175 p2)), .unset]) rfl ?_
          exact k
      · have eq156 := (show (f0_l32_693 p2 p3 p4 p5) = (f0_l32_670 p3 p4 p5) from by unfold f0_l32_693; simp only [if_neg hc672, if_neg hc679])
        try rw [eq156] at k
        refine pre152 t ?_
        refine XS.icmpYes X447.here hx rfl (pc0 := 679) (pc' := 693) rfl (hb hby at_679) rfl (feq hc679).2 (by decide) (by decide) ?_
        exact k
  have pre157 : ∀ t, Steps p.tables e below (T447.setTop (mkF m 695 #[.val (.int p1), .val (.int p2), .val (.int p3), .val (.int p4), .val (.int p5), .val (.int ((p1 &&& (3 : Int32)) - (1 : Int32))), .val (.int (f0_v14 p1)), .val (.int (f0_v23 p1)), .val (.ref b6), .val (.ref b18), .val (.ref b37), .val (.int (f0_v151 p2)), .val (.int (f0_v163 p2)), .val (.int (f0_v175 p2)), .val (.int (f0_v184 p3)), .val (.int (f0_v196 p3)), .val (.int (f0_v208 p3)), .val (.int (f0_v217 p4)), .val (.int (f0_v229 p4)), .val (.int (f0_v241 p4)), .val (.int (f0_v251 p5)), .val (.int (f0_v261 p5)), .val (.int (f0_s0_274 p5)), .val (.int (f0_s0_287 p5)), .val (.int (f0_s0_300 p5)), .val (.ref b60), .val (.ref b81), .val (.ref b112), .val (.ref b153), .val (.int (f0_v408 p1 p2 p3 p4 p5)), .val (.int (f0_s0_517 p1 p2 p3 p4 p5)), .val (.int (f0_l31_621 p1 p2 p3 p4 p5)), .val (.int (f0_l32_693 p2 p3 p4 p5)), .unset] [(.int (f0_s0_517 p1 p2 p3 p4 p5))])) t → Steps p.tables e below (s₁.setTop (entryFrame m #[(.int p1), (.int p2), (.int p3), (.int p4), (.int p5)] maxLocals)) t := by
    intro t k
    refine pre150 t ?_
    refine XS.iload X447.here hx rfl (hb hby at_693) rfl ?_
    exact k
  have pre158 : ∀ t, Steps p.tables e below (T447.setTop (mkF m 733 #[.val (.int p1), .val (.int p2), .val (.int p3), .val (.int p4), .val (.int p5), .val (.int ((p1 &&& (3 : Int32)) - (1 : Int32))), .val (.int (f0_v14 p1)), .val (.int (f0_v23 p1)), .val (.ref b6), .val (.ref b18), .val (.ref b37), .val (.int (f0_v151 p2)), .val (.int (f0_v163 p2)), .val (.int (f0_v175 p2)), .val (.int (f0_v184 p3)), .val (.int (f0_v196 p3)), .val (.int (f0_v208 p3)), .val (.int (f0_v217 p4)), .val (.int (f0_v229 p4)), .val (.int (f0_v241 p4)), .val (.int (f0_v251 p5)), .val (.int (f0_v261 p5)), .val (.int (f0_s0_274 p5)), .val (.int (f0_s0_287 p5)), .val (.int (f0_s0_300 p5)), .val (.ref b60), .val (.ref b81), .val (.ref b112), .val (.ref b153), .val (.int (f0_v408 p1 p2 p3 p4 p5)), .val (.int (f0_s0_517 p1 p2 p3 p4 p5)), .val (.int (f0_l31_621 p1 p2 p3 p4 p5)), .val (.int (f0_l32_693 p2 p3 p4 p5)), .val (.int (f0_l33_733 p1 p2 p3 p4 p5))] [])) t → Steps p.tables e below (s₁.setTop (entryFrame m #[(.int p1), (.int p2), (.int p3), (.int p4), (.int p5)] maxLocals)) t := by
    intro t k
    by_cases hc695 : (f0_s0_517 p1 p2 p3 p4 p5) = (0 : Int32)
    · have pre159 : ∀ t, Steps p.tables e below (T447.setTop (mkF m 707 #[.val (.int p1), .val (.int p2), .val (.int p3), .val (.int p4), .val (.int p5), .val (.int ((p1 &&& (3 : Int32)) - (1 : Int32))), .val (.int (f0_v14 p1)), .val (.int (f0_v23 p1)), .val (.ref b6), .val (.ref b18), .val (.ref b37), .val (.int (f0_v151 p2)), .val (.int (f0_v163 p2)), .val (.int (f0_v175 p2)), .val (.int (f0_v184 p3)), .val (.int (f0_v196 p3)), .val (.int (f0_v208 p3)), .val (.int (f0_v217 p4)), .val (.int (f0_v229 p4)), .val (.int (f0_v241 p4)), .val (.int (f0_v251 p5)), .val (.int (f0_v261 p5)), .val (.int (f0_s0_274 p5)), .val (.int (f0_s0_287 p5)), .val (.int (f0_s0_300 p5)), .val (.ref b60), .val (.ref b81), .val (.ref b112), .val (.ref b153), .val (.int (f0_v408 p1 p2 p3 p4 p5)), .val (.int (f0_s0_517 p1 p2 p3 p4 p5)), .val (.int (f0_l31_621 p1 p2 p3 p4 p5)), .val (.int (f0_l32_693 p2 p3 p4 p5)), .unset] [(.int (f0_l31_621 p1 p2 p3 p4 p5))])) t → Steps p.tables e below (s₁.setTop (entryFrame m #[(.int p1), (.int p2), (.int p3), (.int p4), (.int p5)] maxLocals)) t := by
        intro t k
        refine pre157 t ?_
        show Steps p.tables e below (T447.setTop (mkF m 695 #[.val (.int p1), .val (.int p2), .val (.int p3), .val (.int p4), .val (.int p5), .val (.int ((p1 &&& (3 : Int32)) - (1 : Int32))), .val (.int (f0_v14 p1)), .val (.int (f0_v23 p1)), .val (.ref b6), .val (.ref b18), .val (.ref b37), .val (.int (f0_v151 p2)), .val (.int (f0_v163 p2)), .val (.int (f0_v175 p2)), .val (.int (f0_v184 p3)), .val (.int (f0_v196 p3)), .val (.int (f0_v208 p3)), .val (.int (f0_v217 p4)), .val (.int (f0_v229 p4)), .val (.int (f0_v241 p4)), .val (.int (f0_v251 p5)), .val (.int (f0_v261 p5)), .val (.int (f0_s0_274 p5)), .val (.int (f0_s0_287 p5)), .val (.int (f0_s0_300 p5)), .val (.ref b60), .val (.ref b81), .val (.ref b112), .val (.ref b153), .val (.int (f0_v408 p1 p2 p3 p4 p5)), .val (.int (f0_s0_517 p1 p2 p3 p4 p5)), .val (.int (f0_l31_621 p1 p2 p3 p4 p5)), .val (.int (f0_l32_693 p2 p3 p4 p5)), .unset] [(.int (f0_s0_517 p1 p2 p3 p4 p5))])) _
        refine XS.ifYes X447.here hx rfl (pc0 := 695) (pc' := 705) rfl (hb hby at_695) rfl ((if0 _ _).trans (teq hc695).1) (by decide) (by decide) ?_
        refine XS.iload X447.here hx rfl (hb hby at_705) rfl ?_
        exact k
      by_cases hc707 : (f0_l31_621 p1 p2 p3 p4 p5) < (0 : Int32)
      · have pre160 : ∀ t, Steps p.tables e below (T447.setTop (mkF m 719 #[.val (.int p1), .val (.int p2), .val (.int p3), .val (.int p4), .val (.int p5), .val (.int ((p1 &&& (3 : Int32)) - (1 : Int32))), .val (.int (f0_v14 p1)), .val (.int (f0_v23 p1)), .val (.ref b6), .val (.ref b18), .val (.ref b37), .val (.int (f0_v151 p2)), .val (.int (f0_v163 p2)), .val (.int (f0_v175 p2)), .val (.int (f0_v184 p3)), .val (.int (f0_v196 p3)), .val (.int (f0_v208 p3)), .val (.int (f0_v217 p4)), .val (.int (f0_v229 p4)), .val (.int (f0_v241 p4)), .val (.int (f0_v251 p5)), .val (.int (f0_v261 p5)), .val (.int (f0_s0_274 p5)), .val (.int (f0_s0_287 p5)), .val (.int (f0_s0_300 p5)), .val (.ref b60), .val (.ref b81), .val (.ref b112), .val (.ref b153), .val (.int (f0_v408 p1 p2 p3 p4 p5)), .val (.int (f0_s0_517 p1 p2 p3 p4 p5)), .val (.int (f0_l31_621 p1 p2 p3 p4 p5)), .val (.int (f0_l32_693 p2 p3 p4 p5)), .unset] [(.int (f0_l32_693 p2 p3 p4 p5))])) t → Steps p.tables e below (s₁.setTop (entryFrame m #[(.int p1), (.int p2), (.int p3), (.int p4), (.int p5)] maxLocals)) t := by
          intro t k
          refine pre159 t ?_
          refine XS.ifYes X447.here hx rfl (pc0 := 707) (pc' := 717) rfl (hb hby at_707) rfl ((if0 _ _).trans (tlt hc707).1) (by decide) (by decide) ?_
          refine XS.iload X447.here hx rfl (hb hby at_717) rfl ?_
          exact k
        by_cases hc719 : (f0_l32_693 p2 p3 p4 p5) < (0 : Int32)
        · have eq161 := (show (f0_l33_733 p1 p2 p3 p4 p5) = (f0_v251 p5) from by unfold f0_l33_733; simp only [if_pos hc695, if_pos hc707, if_pos hc719])
          try rw [eq161] at k
          refine pre160 t ?_
          show Steps p.tables e below (T447.setTop (mkF m 719 #[.val (.int p1), .val (.int p2), .val (.int p3), .val (.int p4), .val (.int p5), .val (.int ((p1 &&& (3 : Int32)) - (1 : Int32))), .val (.int (f0_v14 p1)), .val (.int (f0_v23 p1)), .val (.ref b6), .val (.ref b18), .val (.ref b37), .val (.int (f0_v151 p2)), .val (.int (f0_v163 p2)), .val (.int (f0_v175 p2)), .val (.int (f0_v184 p3)), .val (.int (f0_v196 p3)), .val (.int (f0_v208 p3)), .val (.int (f0_v217 p4)), .val (.int (f0_v229 p4)), .val (.int (f0_v241 p4)), .val (.int (f0_v251 p5)), .val (.int (f0_v261 p5)), .val (.int (f0_s0_274 p5)), .val (.int (f0_s0_287 p5)), .val (.int (f0_s0_300 p5)), .val (.ref b60), .val (.ref b81), .val (.ref b112), .val (.ref b153), .val (.int (f0_v408 p1 p2 p3 p4 p5)), .val (.int (f0_s0_517 p1 p2 p3 p4 p5)), .val (.int (f0_l31_621 p1 p2 p3 p4 p5)), .val (.int (f0_l32_693 p2 p3 p4 p5)), .unset] [(.int (f0_l32_693 p2 p3 p4 p5))])) _
          refine XS.ifYes X447.here hx rfl (pc0 := 719) (pc' := 729) rfl (hb hby at_719) rfl ((if0 _ _).trans (tlt hc719).1) (by decide) (by decide) ?_
          refine XS.iload X447.here hx rfl (hb hby at_729) rfl ?_
          refine XS.istore X447.here hx rfl (hb hby at_731) rfl (l' := #[.val (.int p1), .val (.int p2), .val (.int p3), .val (.int p4), .val (.int p5), .val (.int ((p1 &&& (3 : Int32)) - (1 : Int32))), .val (.int (f0_v14 p1)), .val (.int (f0_v23 p1)), .val (.ref b6), .val (.ref b18), .val (.ref b37), .val (.int (f0_v151 p2)), .val (.int (f0_v163 p2)), .val (.int (f0_v175 p2)), .val (.int (f0_v184 p3)), .val (.int (f0_v196 p3)), .val (.int (f0_v208 p3)), .val (.int (f0_v217 p4)), .val (.int (f0_v229 p4)), .val (.int (f0_v241 p4)), .val (.int (f0_v251 p5)), .val (.int (f0_v261 p5)), .val (.int (f0_s0_274 p5)), .val (.int (f0_s0_287 p5)), .val (.int (f0_s0_300 p5)), .val (.ref b60), .val (.ref b81), .val (.ref b112), .val (.ref b153), .val (.int (f0_v408 p1 p2 p3 p4 p5)), .val (.int (f0_s0_517 p1 p2 p3 p4 p5)), .val (.int (f0_l31_621 p1 p2 p3 p4 p5)), .val (.int (f0_l32_693 p2 p3 p4 p5)), .val (.int (f0_v251 p5))]) rfl ?_
          exact k
        · have eq162 := (show (f0_l33_733 p1 p2 p3 p4 p5) = (f0_l32_693 p2 p3 p4 p5) from by unfold f0_l33_733; simp only [if_pos hc695, if_pos hc707, if_neg hc719])
          try rw [eq162] at k
          refine pre160 t ?_
          refine XS.ifNo X447.here hx rfl (hb hby at_719) rfl ((if0 _ _).trans (flt hc719).1) ?_
          show Steps p.tables e below (T447.setTop (mkF m 722 #[.val (.int p1), .val (.int p2), .val (.int p3), .val (.int p4), .val (.int p5), .val (.int ((p1 &&& (3 : Int32)) - (1 : Int32))), .val (.int (f0_v14 p1)), .val (.int (f0_v23 p1)), .val (.ref b6), .val (.ref b18), .val (.ref b37), .val (.int (f0_v151 p2)), .val (.int (f0_v163 p2)), .val (.int (f0_v175 p2)), .val (.int (f0_v184 p3)), .val (.int (f0_v196 p3)), .val (.int (f0_v208 p3)), .val (.int (f0_v217 p4)), .val (.int (f0_v229 p4)), .val (.int (f0_v241 p4)), .val (.int (f0_v251 p5)), .val (.int (f0_v261 p5)), .val (.int (f0_s0_274 p5)), .val (.int (f0_s0_287 p5)), .val (.int (f0_s0_300 p5)), .val (.ref b60), .val (.ref b81), .val (.ref b112), .val (.ref b153), .val (.int (f0_v408 p1 p2 p3 p4 p5)), .val (.int (f0_s0_517 p1 p2 p3 p4 p5)), .val (.int (f0_l31_621 p1 p2 p3 p4 p5)), .val (.int (f0_l32_693 p2 p3 p4 p5)), .unset] [])) _
          refine XS.iload X447.here hx rfl (hb hby at_722) rfl ?_
          refine XS.istore X447.here hx rfl (hb hby at_724) rfl (l' := #[.val (.int p1), .val (.int p2), .val (.int p3), .val (.int p4), .val (.int p5), .val (.int ((p1 &&& (3 : Int32)) - (1 : Int32))), .val (.int (f0_v14 p1)), .val (.int (f0_v23 p1)), .val (.ref b6), .val (.ref b18), .val (.ref b37), .val (.int (f0_v151 p2)), .val (.int (f0_v163 p2)), .val (.int (f0_v175 p2)), .val (.int (f0_v184 p3)), .val (.int (f0_v196 p3)), .val (.int (f0_v208 p3)), .val (.int (f0_v217 p4)), .val (.int (f0_v229 p4)), .val (.int (f0_v241 p4)), .val (.int (f0_v251 p5)), .val (.int (f0_v261 p5)), .val (.int (f0_s0_274 p5)), .val (.int (f0_s0_287 p5)), .val (.int (f0_s0_300 p5)), .val (.ref b60), .val (.ref b81), .val (.ref b112), .val (.ref b153), .val (.int (f0_v408 p1 p2 p3 p4 p5)), .val (.int (f0_s0_517 p1 p2 p3 p4 p5)), .val (.int (f0_l31_621 p1 p2 p3 p4 p5)), .val (.int (f0_l32_693 p2 p3 p4 p5)), .val (.int (f0_l32_693 p2 p3 p4 p5))]) rfl ?_
          refine XS.goto X447.here hx rfl (pc0 := 726) (pc' := 733) rfl (hb hby at_726) (by decide) (by decide) ?_
          exact k
      · have eq163 := (show (f0_l33_733 p1 p2 p3 p4 p5) = (f0_l31_621 p1 p2 p3 p4 p5) from by unfold f0_l33_733; simp only [if_pos hc695, if_neg hc707])
        try rw [eq163] at k
        refine pre159 t ?_
        refine XS.ifNo X447.here hx rfl (hb hby at_707) rfl ((if0 _ _).trans (flt hc707).1) ?_
        show Steps p.tables e below (T447.setTop (mkF m 710 #[.val (.int p1), .val (.int p2), .val (.int p3), .val (.int p4), .val (.int p5), .val (.int ((p1 &&& (3 : Int32)) - (1 : Int32))), .val (.int (f0_v14 p1)), .val (.int (f0_v23 p1)), .val (.ref b6), .val (.ref b18), .val (.ref b37), .val (.int (f0_v151 p2)), .val (.int (f0_v163 p2)), .val (.int (f0_v175 p2)), .val (.int (f0_v184 p3)), .val (.int (f0_v196 p3)), .val (.int (f0_v208 p3)), .val (.int (f0_v217 p4)), .val (.int (f0_v229 p4)), .val (.int (f0_v241 p4)), .val (.int (f0_v251 p5)), .val (.int (f0_v261 p5)), .val (.int (f0_s0_274 p5)), .val (.int (f0_s0_287 p5)), .val (.int (f0_s0_300 p5)), .val (.ref b60), .val (.ref b81), .val (.ref b112), .val (.ref b153), .val (.int (f0_v408 p1 p2 p3 p4 p5)), .val (.int (f0_s0_517 p1 p2 p3 p4 p5)), .val (.int (f0_l31_621 p1 p2 p3 p4 p5)), .val (.int (f0_l32_693 p2 p3 p4 p5)), .unset] [])) _
        refine XS.iload X447.here hx rfl (hb hby at_710) rfl ?_
        refine XS.istore X447.here hx rfl (hb hby at_712) rfl (l' := #[.val (.int p1), .val (.int p2), .val (.int p3), .val (.int p4), .val (.int p5), .val (.int ((p1 &&& (3 : Int32)) - (1 : Int32))), .val (.int (f0_v14 p1)), .val (.int (f0_v23 p1)), .val (.ref b6), .val (.ref b18), .val (.ref b37), .val (.int (f0_v151 p2)), .val (.int (f0_v163 p2)), .val (.int (f0_v175 p2)), .val (.int (f0_v184 p3)), .val (.int (f0_v196 p3)), .val (.int (f0_v208 p3)), .val (.int (f0_v217 p4)), .val (.int (f0_v229 p4)), .val (.int (f0_v241 p4)), .val (.int (f0_v251 p5)), .val (.int (f0_v261 p5)), .val (.int (f0_s0_274 p5)), .val (.int (f0_s0_287 p5)), .val (.int (f0_s0_300 p5)), .val (.ref b60), .val (.ref b81), .val (.ref b112), .val (.ref b153), .val (.int (f0_v408 p1 p2 p3 p4 p5)), .val (.int (f0_s0_517 p1 p2 p3 p4 p5)), .val (.int (f0_l31_621 p1 p2 p3 p4 p5)), .val (.int (f0_l32_693 p2 p3 p4 p5)), .val (.int (f0_l31_621 p1 p2 p3 p4 p5))]) rfl ?_
        refine XS.goto X447.here hx rfl (pc0 := 714) (pc' := 733) rfl (hb hby at_714) (by decide) (by decide) ?_
        exact k
    · have eq164 := (show (f0_l33_733 p1 p2 p3 p4 p5) = (f0_v251 p5) from by unfold f0_l33_733; simp only [if_neg hc695])
      try rw [eq164] at k
      refine pre157 t ?_
      refine XS.ifNo X447.here hx rfl (hb hby at_695) rfl ((if0 _ _).trans (feq hc695).1) ?_
      show Steps p.tables e below (T447.setTop (mkF m 698 #[.val (.int p1), .val (.int p2), .val (.int p3), .val (.int p4), .val (.int p5), .val (.int ((p1 &&& (3 : Int32)) - (1 : Int32))), .val (.int (f0_v14 p1)), .val (.int (f0_v23 p1)), .val (.ref b6), .val (.ref b18), .val (.ref b37), .val (.int (f0_v151 p2)), .val (.int (f0_v163 p2)), .val (.int (f0_v175 p2)), .val (.int (f0_v184 p3)), .val (.int (f0_v196 p3)), .val (.int (f0_v208 p3)), .val (.int (f0_v217 p4)), .val (.int (f0_v229 p4)), .val (.int (f0_v241 p4)), .val (.int (f0_v251 p5)), .val (.int (f0_v261 p5)), .val (.int (f0_s0_274 p5)), .val (.int (f0_s0_287 p5)), .val (.int (f0_s0_300 p5)), .val (.ref b60), .val (.ref b81), .val (.ref b112), .val (.ref b153), .val (.int (f0_v408 p1 p2 p3 p4 p5)), .val (.int (f0_s0_517 p1 p2 p3 p4 p5)), .val (.int (f0_l31_621 p1 p2 p3 p4 p5)), .val (.int (f0_l32_693 p2 p3 p4 p5)), .unset] [])) _
      refine XS.iload X447.here hx rfl (hb hby at_698) rfl ?_
      refine XS.istore X447.here hx rfl (hb hby at_700) rfl (l' := #[.val (.int p1), .val (.int p2), .val (.int p3), .val (.int p4), .val (.int p5), .val (.int ((p1 &&& (3 : Int32)) - (1 : Int32))), .val (.int (f0_v14 p1)), .val (.int (f0_v23 p1)), .val (.ref b6), .val (.ref b18), .val (.ref b37), .val (.int (f0_v151 p2)), .val (.int (f0_v163 p2)), .val (.int (f0_v175 p2)), .val (.int (f0_v184 p3)), .val (.int (f0_v196 p3)), .val (.int (f0_v208 p3)), .val (.int (f0_v217 p4)), .val (.int (f0_v229 p4)), .val (.int (f0_v241 p4)), .val (.int (f0_v251 p5)), .val (.int (f0_v261 p5)), .val (.int (f0_s0_274 p5)), .val (.int (f0_s0_287 p5)), .val (.int (f0_s0_300 p5)), .val (.ref b60), .val (.ref b81), .val (.ref b112), .val (.ref b153), .val (.int (f0_v408 p1 p2 p3 p4 p5)), .val (.int (f0_s0_517 p1 p2 p3 p4 p5)), .val (.int (f0_l31_621 p1 p2 p3 p4 p5)), .val (.int (f0_l32_693 p2 p3 p4 p5)), .val (.int (f0_v251 p5))]) rfl ?_
      refine XS.goto X447.here hx rfl (pc0 := 702) (pc' := 733) rfl (hb hby at_702) (by decide) (by decide) ?_
      exact k
  have pre165 : ∀ t, Steps p.tables e below (T447.setTop (mkF m 737 #[.val (.int p1), .val (.int p2), .val (.int p3), .val (.int p4), .val (.int p5), .val (.int ((p1 &&& (3 : Int32)) - (1 : Int32))), .val (.int (f0_v14 p1)), .val (.int (f0_v23 p1)), .val (.ref b6), .val (.ref b18), .val (.ref b37), .val (.int (f0_v151 p2)), .val (.int (f0_v163 p2)), .val (.int (f0_v175 p2)), .val (.int (f0_v184 p3)), .val (.int (f0_v196 p3)), .val (.int (f0_v208 p3)), .val (.int (f0_v217 p4)), .val (.int (f0_v229 p4)), .val (.int (f0_v241 p4)), .val (.int (f0_v251 p5)), .val (.int (f0_v261 p5)), .val (.int (f0_s0_274 p5)), .val (.int (f0_s0_287 p5)), .val (.int (f0_s0_300 p5)), .val (.ref b60), .val (.ref b81), .val (.ref b112), .val (.ref b153), .val (.int (f0_v408 p1 p2 p3 p4 p5)), .val (.int (f0_s0_517 p1 p2 p3 p4 p5)), .val (.int (f0_l31_621 p1 p2 p3 p4 p5)), .val (.int (f0_l32_693 p2 p3 p4 p5)), .val (.int (f0_l33_733 p1 p2 p3 p4 p5))] [(.int (f0_l33_733 p1 p2 p3 p4 p5)), (.int (f0_v408 p1 p2 p3 p4 p5))])) t → Steps p.tables e below (s₁.setTop (entryFrame m #[(.int p1), (.int p2), (.int p3), (.int p4), (.int p5)] maxLocals)) t := by
    intro t k
    refine pre158 t ?_
    refine XS.iload X447.here hx rfl (hb hby at_733) rfl ?_
    show Steps p.tables e below (T447.setTop (mkF m 735 #[.val (.int p1), .val (.int p2), .val (.int p3), .val (.int p4), .val (.int p5), .val (.int ((p1 &&& (3 : Int32)) - (1 : Int32))), .val (.int (f0_v14 p1)), .val (.int (f0_v23 p1)), .val (.ref b6), .val (.ref b18), .val (.ref b37), .val (.int (f0_v151 p2)), .val (.int (f0_v163 p2)), .val (.int (f0_v175 p2)), .val (.int (f0_v184 p3)), .val (.int (f0_v196 p3)), .val (.int (f0_v208 p3)), .val (.int (f0_v217 p4)), .val (.int (f0_v229 p4)), .val (.int (f0_v241 p4)), .val (.int (f0_v251 p5)), .val (.int (f0_v261 p5)), .val (.int (f0_s0_274 p5)), .val (.int (f0_s0_287 p5)), .val (.int (f0_s0_300 p5)), .val (.ref b60), .val (.ref b81), .val (.ref b112), .val (.ref b153), .val (.int (f0_v408 p1 p2 p3 p4 p5)), .val (.int (f0_s0_517 p1 p2 p3 p4 p5)), .val (.int (f0_l31_621 p1 p2 p3 p4 p5)), .val (.int (f0_l32_693 p2 p3 p4 p5)), .val (.int (f0_l33_733 p1 p2 p3 p4 p5))] [(.int (f0_v408 p1 p2 p3 p4 p5))])) _
    refine XS.iload X447.here hx rfl (hb hby at_735) rfl ?_
    exact k
  by_cases hc737 : (f0_v408 p1 p2 p3 p4 p5) = (f0_l33_733 p1 p2 p3 p4 p5)
  · have eq166 : (f0 p1 p2 p3 p4 p5) = (1 : Int32) := by unfold f0; simp only [if_pos hc737]
    obtain ⟨fs, hr, hrun, hended, hW, hsame⟩ := X447.leave (v := some (.int (1 : Int32))) (fun h => by rw [Bd.returns] at h; cases h)
    refine ⟨_, _, pre165 _ ?_, hrun, hended, _, _, rfl, ?_, ⟨_, rfl⟩, hW, hsame.mono (by decide) (by decide)⟩
    · show Steps p.tables e below (T447.setTop (mkF m 737 #[.val (.int p1), .val (.int p2), .val (.int p3), .val (.int p4), .val (.int p5), .val (.int ((p1 &&& (3 : Int32)) - (1 : Int32))), .val (.int (f0_v14 p1)), .val (.int (f0_v23 p1)), .val (.ref b6), .val (.ref b18), .val (.ref b37), .val (.int (f0_v151 p2)), .val (.int (f0_v163 p2)), .val (.int (f0_v175 p2)), .val (.int (f0_v184 p3)), .val (.int (f0_v196 p3)), .val (.int (f0_v208 p3)), .val (.int (f0_v217 p4)), .val (.int (f0_v229 p4)), .val (.int (f0_v241 p4)), .val (.int (f0_v251 p5)), .val (.int (f0_v261 p5)), .val (.int (f0_s0_274 p5)), .val (.int (f0_s0_287 p5)), .val (.int (f0_s0_300 p5)), .val (.ref b60), .val (.ref b81), .val (.ref b112), .val (.ref b153), .val (.int (f0_v408 p1 p2 p3 p4 p5)), .val (.int (f0_s0_517 p1 p2 p3 p4 p5)), .val (.int (f0_l31_621 p1 p2 p3 p4 p5)), .val (.int (f0_l32_693 p2 p3 p4 p5)), .val (.int (f0_l33_733 p1 p2 p3 p4 p5))] [(.int (f0_l33_733 p1 p2 p3 p4 p5)), (.int (f0_v408 p1 p2 p3 p4 p5))])) _
      refine XS.icmpNo X447.here hx rfl (hb hby at_737) rfl (teq hc737).2 ?_
      refine XS.iconst X447.here hx rfl (hb hby at_740) ?_
      refine XS.goto X447.here hx rfl (pc0 := 741) (pc' := 745) rfl (hb hby at_741) (by decide) (by decide) ?_
      show Steps p.tables e below (T447.setTop (mkF m 745 #[.val (.int p1), .val (.int p2), .val (.int p3), .val (.int p4), .val (.int p5), .val (.int ((p1 &&& (3 : Int32)) - (1 : Int32))), .val (.int (f0_v14 p1)), .val (.int (f0_v23 p1)), .val (.ref b6), .val (.ref b18), .val (.ref b37), .val (.int (f0_v151 p2)), .val (.int (f0_v163 p2)), .val (.int (f0_v175 p2)), .val (.int (f0_v184 p3)), .val (.int (f0_v196 p3)), .val (.int (f0_v208 p3)), .val (.int (f0_v217 p4)), .val (.int (f0_v229 p4)), .val (.int (f0_v241 p4)), .val (.int (f0_v251 p5)), .val (.int (f0_v261 p5)), .val (.int (f0_s0_274 p5)), .val (.int (f0_s0_287 p5)), .val (.int (f0_s0_300 p5)), .val (.ref b60), .val (.ref b81), .val (.ref b112), .val (.ref b153), .val (.int (f0_v408 p1 p2 p3 p4 p5)), .val (.int (f0_s0_517 p1 p2 p3 p4 p5)), .val (.int (f0_l31_621 p1 p2 p3 p4 p5)), .val (.int (f0_l32_693 p2 p3 p4 p5)), .val (.int (f0_l33_733 p1 p2 p3 p4 p5))] [(.int (1 : Int32))])) _
      exact retN X447 hx (t := .boolean) Bd.returns (by simp) (hb hby at_745) hr
    · show Q0 Z p1 p2 p3 p4 p5 h0 n0 _ T447.heap _
      rw [e447]
      exact ⟨by rw [eq166], N447, trivial⟩
  · have eq167 : (f0 p1 p2 p3 p4 p5) = (0 : Int32) := by unfold f0; simp only [if_neg hc737]
    obtain ⟨fs, hr, hrun, hended, hW, hsame⟩ := X447.leave (v := some (.int (0 : Int32))) (fun h => by rw [Bd.returns] at h; cases h)
    refine ⟨_, _, pre165 _ ?_, hrun, hended, _, _, rfl, ?_, ⟨_, rfl⟩, hW, hsame.mono (by decide) (by decide)⟩
    · show Steps p.tables e below (T447.setTop (mkF m 737 #[.val (.int p1), .val (.int p2), .val (.int p3), .val (.int p4), .val (.int p5), .val (.int ((p1 &&& (3 : Int32)) - (1 : Int32))), .val (.int (f0_v14 p1)), .val (.int (f0_v23 p1)), .val (.ref b6), .val (.ref b18), .val (.ref b37), .val (.int (f0_v151 p2)), .val (.int (f0_v163 p2)), .val (.int (f0_v175 p2)), .val (.int (f0_v184 p3)), .val (.int (f0_v196 p3)), .val (.int (f0_v208 p3)), .val (.int (f0_v217 p4)), .val (.int (f0_v229 p4)), .val (.int (f0_v241 p4)), .val (.int (f0_v251 p5)), .val (.int (f0_v261 p5)), .val (.int (f0_s0_274 p5)), .val (.int (f0_s0_287 p5)), .val (.int (f0_s0_300 p5)), .val (.ref b60), .val (.ref b81), .val (.ref b112), .val (.ref b153), .val (.int (f0_v408 p1 p2 p3 p4 p5)), .val (.int (f0_s0_517 p1 p2 p3 p4 p5)), .val (.int (f0_l31_621 p1 p2 p3 p4 p5)), .val (.int (f0_l32_693 p2 p3 p4 p5)), .val (.int (f0_l33_733 p1 p2 p3 p4 p5))] [(.int (f0_l33_733 p1 p2 p3 p4 p5)), (.int (f0_v408 p1 p2 p3 p4 p5))])) _
      refine XS.icmpYes X447.here hx rfl (pc0 := 737) (pc' := 744) rfl (hb hby at_737) rfl (feq hc737).2 (by decide) (by decide) ?_
      refine XS.iconst X447.here hx rfl (hb hby at_744) ?_
      show Steps p.tables e below (T447.setTop (mkF m 745 #[.val (.int p1), .val (.int p2), .val (.int p3), .val (.int p4), .val (.int p5), .val (.int ((p1 &&& (3 : Int32)) - (1 : Int32))), .val (.int (f0_v14 p1)), .val (.int (f0_v23 p1)), .val (.ref b6), .val (.ref b18), .val (.ref b37), .val (.int (f0_v151 p2)), .val (.int (f0_v163 p2)), .val (.int (f0_v175 p2)), .val (.int (f0_v184 p3)), .val (.int (f0_v196 p3)), .val (.int (f0_v208 p3)), .val (.int (f0_v217 p4)), .val (.int (f0_v229 p4)), .val (.int (f0_v241 p4)), .val (.int (f0_v251 p5)), .val (.int (f0_v261 p5)), .val (.int (f0_s0_274 p5)), .val (.int (f0_s0_287 p5)), .val (.int (f0_s0_300 p5)), .val (.ref b60), .val (.ref b81), .val (.ref b112), .val (.ref b153), .val (.int (f0_v408 p1 p2 p3 p4 p5)), .val (.int (f0_s0_517 p1 p2 p3 p4 p5)), .val (.int (f0_l31_621 p1 p2 p3 p4 p5)), .val (.int (f0_l32_693 p2 p3 p4 p5)), .val (.int (f0_l33_733 p1 p2 p3 p4 p5))] [(.int (0 : Int32))])) _
      exact retN X447 hx (t := .boolean) Bd.returns (by simp) (hb hby at_745) hr
    · show Q0 Z p1 p2 p3 p4 p5 h0 n0 _ T447.heap _
      rw [e447]
      exact ⟨by rw [eq167], N447, trivial⟩
def own_X (x0 x1 x2 : Bool) (v : Nat) : Bool := if v = 0 then x0 else if v = 1 then x1 else x2
def own_n1 (X : Nat → Bool) (a1 y1 : Bool) (v1 : Nat) : Int32 := if a1 && X v1 && !false && y1 then 0 + 1 else 0
def own_n2 (X : Nat → Bool) (a1 a2 y1 y2 : Bool) (v1 v2 : Nat) : Int32 := if a2 && X v2 && !(false || (a1 && v2 == v1)) && y2 then own_n1 X a1 y1 v1 + 1 else own_n1 X a1 y1 v1
def own_n3 (X : Nat → Bool) (a1 a2 a3 y1 y2 y3 : Bool) (v1 v2 v3 : Nat) : Int32 := if a3 && X v3 && !((false || (a1 && v3 == v1)) || (a2 && v3 == v2)) && y3 then own_n2 X a1 a2 y1 y2 v1 v2 + 1 else own_n2 X a1 a2 y1 y2 v1 v2
def own_ft (a1 a2 a3 y1 y2 y3 : Bool) (v1 v2 v3 w : Nat) : Bool := if a1 && v1 == w then y1 else if a2 && v2 == w then y2 else if a3 && v3 == w then y3 else false
def own_b (b : Bool) : Int32 := if b then 1 else 0
set_option maxRecDepth 100000 in
theorem own_fin : ∀ (v1 v2 v3 : Fin 3) (x0 x1 x2 a1 a2 a3 y1 y2 y3 : Bool), (own_n3 (own_X x0 x1 x2) a1 a2 a3 y1 y2 y3 v1.val v2.val v3.val = own_b x0 + own_b x1 + own_b x2) ↔ ((!x0 || own_ft a1 a2 a3 y1 y2 y3 v1.val v2.val v3.val 0) && (!x1 || own_ft a1 a2 a3 y1 y2 y3 v1.val v2.val v3.val 1) && (!x2 || own_ft a1 a2 a3 y1 y2 y3 v1.val v2.val v3.val 2)) = true := by decide +kernel
theorem own_cin {a b : Int32} (ha : 0 ≤ a.toInt) (hb : 0 ≤ b.toInt) (h : a.toNatClampNeg = b.toNatClampNeg) : a = b := by
  have h' : a.toInt.toNat = b.toInt.toNat := h
  apply Int32.toInt_inj.mp
  omega
theorem own_neg {a : Int32} (h : ¬ a < 0) : 0 ≤ a.toInt := by
  rw [Int32.lt_iff_toInt_lt, own_e0] at h; omega
theorem own_sh (v t s : Int32) (ia sh co : Nat → Int32) (hs : 0 ≤ s.toInt) : f8_A_w_sh_130 v t ia sh co s.toNatClampNeg = if ia v.toNatClampNeg = s ∧ co v.toNatClampNeg = 0 ∧ t = s then sh s.toNatClampNeg + 1 else sh s.toNatClampNeg := by
  unfold f8_A_w_sh_130 f8_v129 f9 f11
  generalize ia v.toNatClampNeg = h
  by_cases h1 : h < 0
  · rw [if_pos h1, if_neg]
    rintro ⟨rfl, -⟩
    rw [Int32.lt_iff_toInt_lt, own_e0] at h1; omega
  · rw [if_neg h1]
    have h1' := own_neg h1
    by_cases h2 : co v.toNatClampNeg = 0
    · rw [if_pos h2]
      by_cases h3 : h = s
      · subst h3
        by_cases h4 : t = h
        · rw [if_pos h4, if_pos ⟨rfl, h2, h4⟩]
          unfold ownU; rw [if_pos rfl]
        · rw [if_neg h4, if_neg (fun q => h4 q.2.2)]
      · rw [if_neg (c := h = s ∧ _) (fun q => h3 q.1)]
        by_cases h4 : t = h
        · rw [if_pos h4]
          unfold ownU; rw [if_neg (fun q => h3 (own_cin hs h1' q).symm)]
        · rw [if_neg h4]
    · rw [if_neg h2, if_neg (fun q => h2 q.2.1)]
theorem own_co (v t : Int32) (ia co : Nat → Int32) (w : Nat) : f8_A_w_co_130 v t ia co w = if ¬ ia v.toNatClampNeg < 0 ∧ co v.toNatClampNeg = 0 ∧ w = v.toNatClampNeg then 1 else co w := by
  unfold f8_A_w_co_130 f8_v100 f9 f11
  by_cases h1 : ia v.toNatClampNeg < 0
  · rw [if_pos h1, if_neg (fun q => q.1 h1)]
  · rw [if_neg h1]
    by_cases h2 : co v.toNatClampNeg = 0
    · rw [if_pos h2, ite_self]
      unfold ownU
      by_cases h3 : w = v.toNatClampNeg
      · rw [if_pos h3, if_pos ⟨h1, h2, h3⟩]; rfl
      · rw [if_neg h3, if_neg (fun q => h3 q.2.2)]
    · rw [if_neg h2, if_neg (fun q => h2 q.2.1)]
theorem own_stp (a v t s : Int32) (ia sh co : Nat → Int32) (n : Int32) (c : Nat → Bool) (hs : 0 ≤ s.toInt) (h1 : sh s.toNatClampNeg = n) (h2 : ∀ w, ia w = s → (co w = 0 ↔ c w = false)) :
    (if a = 0 then sh else f8_A_w_sh_130 v t ia sh co) s.toNatClampNeg = (if (!decide (a = 0)) && decide (ia v.toNatClampNeg = s) && !(c v.toNatClampNeg) && decide (t = s) then n + 1 else n) ∧ ∀ w, ia w = s → ((if a = 0 then co else f8_A_w_co_130 v t ia co) w = 0 ↔ (c w || ((!decide (a = 0)) && w == v.toNatClampNeg)) = false) := by
  by_cases ha : a = 0
  · simp only [if_pos ha, ha, decide_true, Bool.not_true, Bool.false_and, Bool.or_false, Bool.false_eq_true, if_false]
    exact ⟨h1, h2⟩
  · simp only [ha, decide_false, Bool.not_false, Bool.true_and, if_false]
    refine ⟨?_, fun w hw => ?_⟩
    · rw [own_sh v t s ia sh co hs, h1]
      by_cases h3 : ia v.toNatClampNeg = s
      · have h4 := h2 _ h3
        by_cases h5 : c v.toNatClampNeg = false
        · by_cases h6 : t = s
          · rw [if_pos ⟨h3, h4.mpr h5, h6⟩, if_pos (by simp [h3, h5, h6])]
          · rw [if_neg (fun q => h6 q.2.2), if_neg (by simp [h6])]
        · rw [if_neg (fun q => h5 (h4.mp q.2.1)), if_neg (by simp [h5])]
      · rw [if_neg (fun q => h3 q.1), if_neg (by simp [h3])]
    · rw [own_co]
      have h3 := h2 w hw
      by_cases h4 : w = v.toNatClampNeg
      · subst h4
        by_cases h5 : co v.toNatClampNeg = 0
        · rw [if_pos ⟨by rw [hw, Int32.lt_iff_toInt_lt, own_e0]; omega, h5, rfl⟩]
          simp
        · rw [if_neg (fun q => h5 q.2.1)]
          simp [h5]
      · rw [if_neg (fun q => h4 q.2.2), h3]
        simp [h4]
theorem own_f13 (w a1 v1 t1 a2 v2 t2 a3 v3 t3 s : Int32) (hs : 0 ≤ s.toInt) (W V1 V2 V3 : Nat) (e1 : v1 = w ↔ V1 = W) (e2 : v2 = w ↔ V2 = W) (e3 : v3 = w ↔ V3 = W) : f13 w a1 v1 t1 a2 v2 t2 a3 v3 t3 = s ↔ own_ft (!decide (a1 = 0)) (!decide (a2 = 0)) (!decide (a3 = 0)) (decide (t1 = s)) (decide (t2 = s)) (decide (t3 = s)) V1 V2 V3 W = true := by
  have hm : ¬ (-1 : Int32) = s := by rintro rfl; exact absurd hs (by decide)
  unfold f13 f13_l10_33 f13_l10_18 own_ft
  by_cases x1 : a1 = 0 <;> by_cases x2 : a2 = 0 <;> by_cases x3 : a3 = 0 <;> by_cases y1 : v1 = w <;> by_cases y2 : v2 = w <;> by_cases y3 : v3 = w <;> simp [x1, x2, x3, y1, y2, y3, e1.mp, e2.mp, e3.mp, hm, ← e1, ← e2, ← e3]
theorem own_al (f t s : Int32) (c : Nat → Int32) (hf : 0 ≤ f.toInt) (hs : 0 ≤ s.toInt) : f8_A_w_al_39 f t c s.toNatClampNeg = if (f = s ∧ ¬ t = s) ∧ c s.toNatClampNeg < 0 then t else c s.toNatClampNeg := by
  unfold f8_A_w_al_39 f8_v38 f10 f11
  by_cases h : f = s
  · subst h
    by_cases h2 : f = t
    · rw [if_pos h2, if_neg (fun q => q.1.2 h2.symm)]
    · rw [if_neg h2]
      by_cases h3 : c f.toNatClampNeg < 0
      · rw [if_pos h3, if_pos ⟨⟨rfl, fun q => h2 q.symm⟩, h3⟩]
        unfold ownU; rw [if_pos rfl]
      · rw [if_neg h3, if_neg (fun q => h3 q.2)]
  · rw [if_neg (c := (f = s ∧ ¬ t = s) ∧ _) (fun q => h q.1.1)]
    by_cases h2 : f = t
    · rw [if_pos h2]
    · rw [if_neg h2]
      by_cases h3 : c f.toNatClampNeg < 0
      · rw [if_pos h3]
        unfold ownU; rw [if_neg (fun q => h (own_cin hs hf q).symm)]
      · rw [if_neg h3]
theorem own_ol (v f t s : Int32) (ia c : Nat → Int32) (hf : 0 ≤ f.toInt) (hs : 0 ≤ s.toInt) : f8_A_w_ol_72 v f t ia c s.toNatClampNeg = if (f = s ∧ ¬ t = s ∧ ia v.toNatClampNeg = s) ∧ c s.toNatClampNeg < 0 then t else c s.toNatClampNeg := by
  unfold f8_A_w_ol_72 f8_v71 f9 f10 f11
  by_cases h : f = s
  · subst h
    by_cases h2 : f = t
    · rw [if_pos h2, if_neg (fun q => q.1.2.1 h2.symm)]
    · rw [if_neg h2]
      by_cases h4 : ia v.toNatClampNeg = f
      · rw [if_pos h4]
        by_cases h3 : c f.toNatClampNeg < 0
        · rw [if_pos h3, if_pos ⟨⟨rfl, fun q => h2 q.symm, h4⟩, h3⟩]
          unfold ownU; rw [if_pos rfl]
        · rw [if_neg h3, if_neg (fun q => h3 q.2)]
      · rw [if_neg h4, if_neg (fun q => h4 q.1.2.2)]
  · rw [if_neg (c := (f = s ∧ ¬ t = s ∧ _) ∧ _) (fun q => h q.1.1)]
    by_cases h2 : f = t
    · rw [if_pos h2]
    · rw [if_neg h2]
      by_cases h4 : ia v.toNatClampNeg = f
      · rw [if_pos h4]
        by_cases h3 : c f.toNatClampNeg < 0
        · rw [if_pos h3]
          unfold ownU; rw [if_neg (fun q => h (own_cin hs hf q).symm)]
        · rw [if_neg h3]
      · rw [if_neg h4]
theorem own_first (c1 c2 c3 : Prop) [Decidable c1] [Decidable c2] [Decidable c3] (t1 t2 t3 : Int32) (h1 : ¬ t1 < 0) (h2 : ¬ t2 < 0) (A1 A2 A3 : Int32) (e1 : A1 = if c1 then t1 else -1) (e2 : A2 = if c2 ∧ A1 < 0 then t2 else A1) (e3 : A3 = if c3 ∧ A2 < 0 then t3 else A2) : A3 = if c1 then t1 else if c2 then t2 else if c3 then t3 else -1 := by
  have hm : (-1 : Int32) < 0 := by decide
  subst e1
  subst e2
  subst e3
  by_cases x1 : c1 <;> by_cases x2 : c2 <;> by_cases x3 : c3 <;> simp [x1, x2, x3, h1, h2, hm]
theorem own_m1S (s : Int32) (h : 0 ≤ s.toInt ∧ s.toInt < 3) : f6_o0 (-1) 3 (fun _ => 0) s.toNatClampNeg = -1 := by
  have e : s = 0 ∨ s = 1 ∨ s = 2 := by
    rcases (show s.toInt = 0 ∨ s.toInt = 1 ∨ s.toInt = 2 by omega) with q | q | q
    · exact Or.inl (Int32.toInt_inj.mp q)
    · exact Or.inr (Or.inl (Int32.toInt_inj.mp q))
    · exact Or.inr (Or.inr (Int32.toInt_inj.mp q))
  rcases e with rfl | rfl | rfl <;> decide
theorem own_alstep (a f t s : Int32) (c : Nat → Int32) (hf : 0 ≤ f.toInt) (hs : 0 ≤ s.toInt) : (if a = 0 then c else f8_A_w_al_39 f t c) s.toNatClampNeg = if (¬ a = 0 ∧ f = s ∧ ¬ t = s) ∧ c s.toNatClampNeg < 0 then t else c s.toNatClampNeg := by
  by_cases h : a = 0
  · rw [if_pos h, if_neg (fun q => q.1.1 h)]
  · rw [if_neg h, own_al f t s c hf hs]
    simp only [h, not_false_eq_true, true_and]
theorem own_olstep (a v f t s : Int32) (ia c : Nat → Int32) (hf : 0 ≤ f.toInt) (hs : 0 ≤ s.toInt) : (if a = 0 then c else f8_A_w_ol_72 v f t ia c) s.toNatClampNeg = if (¬ a = 0 ∧ f = s ∧ ¬ t = s ∧ ia v.toNatClampNeg = s) ∧ c s.toNatClampNeg < 0 then t else c s.toNatClampNeg := by
  by_cases h : a = 0
  · rw [if_pos h, if_neg (fun q => q.1.1 h)]
  · rw [if_neg h, own_ol v f t s ia c hf hs]
    simp only [h, not_false_eq_true, true_and]
theorem own_lv (a f t s X : Int32) : (if a = 0 then X else if f = s then (if t = s then X else t) else X) = if (¬ a = 0 ∧ f = s ∧ ¬ t = s) then t else X := by
  by_cases h1 : a = 0 <;> by_cases h2 : f = s <;> by_cases h3 : t = s <;> simp [h1, h2, h3]
theorem own_lw (a f t s x X : Int32) : (if a = 0 then X else if f = s then (if t = s then X else (if x = s then t else X)) else X) = if (¬ a = 0 ∧ f = s ∧ ¬ t = s ∧ x = s) then t else X := by
  by_cases h1 : a = 0 <;> by_cases h2 : f = s <;> by_cases h3 : t = s <;> by_cases h4 : x = s <;> simp [h1, h2, h3, h4]
theorem own_012 (s : Int32) (h : 0 ≤ s.toInt ∧ s.toInt < 3) : s = 0 ∨ s = 1 ∨ s = 2 := by
  rcases (show s.toInt = 0 ∨ s.toInt = 1 ∨ s.toInt = 2 by omega) with q | q | q
  · exact Or.inl (Int32.toInt_inj.mp q)
  · exact Or.inr (Or.inl (Int32.toInt_inj.mp q))
  · exact Or.inr (Or.inr (Int32.toInt_inj.mp q))
theorem own_bd (a s : Int32) : (if a = s then (1 : Int32) else 0) = own_b (decide (a = s)) := by
  unfold own_b
  by_cases h : a = s <;> simp [h]
theorem own_ic (p1 s : Int32) (h : 0 ≤ s.toInt ∧ s.toInt < 3) : f0_v86 p1 s.toNatClampNeg = own_b (decide (((p1 &&& 3) - 1) = s)) + own_b (decide (f0_v14 p1 = s)) + own_b (decide (f0_v23 p1 = s)) := by
  have e : f0_v86 p1 s.toNatClampNeg = f1 ((p1 &&& 3) - 1) (f0_v14 p1) (f0_v23 p1) s := by
    rcases own_012 s h with rfl | rfl | rfl <;> rfl
  rw [e]
  unfold f1 f1_s0_10 f1_s0_20 f1_s0_31
  rw [own_bd, own_bd, own_bd]
theorem own_vw (v : Int32) (h : 0 ≤ v.toInt ∧ v.toInt < 3) (w : Int32) (W : Nat) (hw : w.toInt = W) : v = w ↔ v.toNatClampNeg = W := by
  have e : v.toNatClampNeg = v.toInt.toNat := rfl
  rw [← Int32.toInt_inj, e]
  omega
theorem own_517 (h0 h1 h2 s : Int32) (F0 F1 F2 : Int32) (b0 b1 b2 : Bool) (e0 : F0 = s ↔ b0 = true) (e1 : F1 = s ↔ b1 = true) (e2 : F2 = s ↔ b2 = true) (r : Int32)
    (hr : r = (if h0 = s then (if F0 = s then (if h1 = s then (if F1 = s then (if h2 = s then (if F2 = s then (1 : Int32) else 0) else 1) else 0) else (if h2 = s then (if F2 = s then 1 else 0) else 1)) else 0) else (if h1 = s then (if F1 = s then (if h2 = s then (if F2 = s then 1 else 0) else 1) else 0) else (if h2 = s then (if F2 = s then 1 else 0) else 1)))) :
    r = if ((!decide (h0 = s) || b0) && (!decide (h1 = s) || b1) && (!decide (h2 = s) || b2)) = true then 1 else 0 := by
  rw [hr]
  simp only [e0, e1, e2]
  by_cases x0 : h0 = s <;> by_cases x1 : h1 = s <;> by_cases x2 : h2 = s <;> cases b0 <;> cases b1 <;> cases b2 <;> simp [x0, x1, x2]
theorem own_law (p1 p2 p3 p4 p5 : Int32) : f0 p1 p2 p3 p4 p5 = 1 := by
  have hs := own_v251 p5
  have s1 := own_stp (f0_s0_274 p5) (f0_v151 p2) (f0_v175 p2) (f0_v251 p5) (f0_v42 p1) (fun _ => 0) (fun _ => 0) 0 (fun _ => false) hs.1 rfl (fun w _ => by simp)
  have s2 := own_stp (f0_s0_287 p5) (f0_v184 p3) (f0_v208 p3) (f0_v251 p5) (f0_v42 p1) (f0_A_r183_2_377 p1 p2 p5) (f0_A_r183_5_377 p1 p2 p5) _ _ hs.1 s1.1 s1.2
  have s3 := own_stp (f0_s0_300 p5) (f0_v217 p4) (f0_v241 p4) (f0_v251 p5) (f0_v42 p1) (f0_A_r183_2_389 p1 p2 p3 p5) (f0_A_r183_5_389 p1 p2 p3 p5) _ _ hs.1 s2.1 s2.2
  have hX : ∀ V, V < 3 → decide (f0_v42 p1 V = f0_v251 p5) = own_X (decide (((p1 &&& 3) - 1) = f0_v251 p5)) (decide (f0_v14 p1 = f0_v251 p5)) (decide (f0_v23 p1 = f0_v251 p5)) V := fun V hV => by
    match V, hV with
    | 0, _ => rfl
    | 1, _ => rfl
    | 2, _ => rfl
  have lt3 : ∀ v : Int32, (0 ≤ v.toInt ∧ v.toInt < 3) → v.toNatClampNeg < 3 := fun v h => by
    show v.toInt.toNat < 3; omega
  have V1 := lt3 _ (own_v151 p2)
  have V2 := lt3 _ (own_v184 p3)
  have V3 := lt3 _ (own_v217 p4)
  have sh3 : f0_A_r183_2_401 p1 p2 p3 p4 p5 (f0_v251 p5).toNatClampNeg = own_n3 (fun V => decide (f0_v42 p1 V = f0_v251 p5)) (!decide (f0_s0_274 p5 = 0)) (!decide (f0_s0_287 p5 = 0)) (!decide (f0_s0_300 p5 = 0)) (decide (f0_v175 p2 = f0_v251 p5)) (decide (f0_v208 p3 = f0_v251 p5)) (decide (f0_v241 p4 = f0_v251 p5)) (f0_v151 p2).toNatClampNeg (f0_v184 p3).toNatClampNeg (f0_v217 p4).toNatClampNeg := s3.1
  have fin := own_fin ⟨_, V1⟩ ⟨_, V2⟩ ⟨_, V3⟩ (decide (((p1 &&& 3) - 1) = f0_v251 p5)) (decide (f0_v14 p1 = f0_v251 p5)) (decide (f0_v23 p1 = f0_v251 p5)) (!decide (f0_s0_274 p5 = 0)) (!decide (f0_s0_287 p5 = 0)) (!decide (f0_s0_300 p5 = 0)) (decide (f0_v175 p2 = f0_v251 p5)) (decide (f0_v208 p3 = f0_v251 p5)) (decide (f0_v241 p4 = f0_v251 p5))
  have hn : ∀ a1 a2 a3 y1 y2 y3, own_n3 (fun V => decide (f0_v42 p1 V = f0_v251 p5)) a1 a2 a3 y1 y2 y3 (f0_v151 p2).toNatClampNeg (f0_v184 p3).toNatClampNeg (f0_v217 p4).toNatClampNeg = own_n3 (own_X (decide (((p1 &&& 3) - 1) = f0_v251 p5)) (decide (f0_v14 p1 = f0_v251 p5)) (decide (f0_v23 p1 = f0_v251 p5))) a1 a2 a3 y1 y2 y3 (f0_v151 p2).toNatClampNeg (f0_v184 p3).toNatClampNeg (f0_v217 p4).toNatClampNeg := fun a1 a2 a3 y1 y2 y3 => by
    simp only [own_n3, own_n2, own_n1, hX _ V1, hX _ V2, hX _ V3]
  rw [hn] at sh3
  rw [← sh3, ← own_ic p1 _ hs] at fin
  have ff : ∀ (w : Int32) (W : Nat), w.toInt = W → (f13 w (f0_s0_274 p5) (f0_v151 p2) (f0_v175 p2) (f0_s0_287 p5) (f0_v184 p3) (f0_v208 p3) (f0_s0_300 p5) (f0_v217 p4) (f0_v241 p4) = f0_v251 p5 ↔ _) := fun w W hw => own_f13 w _ _ _ _ _ _ _ _ _ _ hs.1 W _ _ _ (own_vw _ (own_v151 p2) w W hw) (own_vw _ (own_v184 p3) w W hw) (own_vw _ (own_v217 p4) w W hw)
  have hall := own_517 ((p1 &&& 3) - 1) (f0_v14 p1) (f0_v23 p1) (f0_v251 p5) _ _ _ _ _ _ (ff 0 0 rfl) (ff 1 1 rfl) (ff 2 2 rfl) (f0_s0_517 p1 p2 p3 p4 p5) rfl
  have nz : ∀ v : Int32, (0 ≤ v.toInt ∧ v.toInt < 3) → ¬ v < 0 := fun v h => by rw [Int32.lt_iff_toInt_lt, own_e0]; omega
  have m1 := own_m1S _ hs
  have hm : (-1 : Int32) < 0 := by decide
  have hany : f0_A_r183_4_401 p1 p2 p3 p4 p5 (f0_v251 p5).toNatClampNeg = f0_l32_693 p2 p3 p4 p5 := by
    have a1 := own_alstep (f0_s0_274 p5) (f0_v163 p2) (f0_v175 p2) (f0_v251 p5) (f6_o0 (-1) 3 (fun _ => 0)) (own_v163 p2).1 hs.1
    have a2 := own_alstep (f0_s0_287 p5) (f0_v196 p3) (f0_v208 p3) (f0_v251 p5) (f0_A_r183_4_377 p1 p2 p5) (own_v196 p3).1 hs.1
    have a3 := own_alstep (f0_s0_300 p5) (f0_v229 p4) (f0_v241 p4) (f0_v251 p5) (f0_A_r183_4_389 p1 p2 p3 p5) (own_v229 p4).1 hs.1
    simp only [m1, hm, and_true] at a1
    have r := own_first _ _ _ _ _ _ (nz _ (own_v175 p2)) (nz _ (own_v208 p3)) (f0_A_r183_4_377 p1 p2 p5 (f0_v251 p5).toNatClampNeg) (f0_A_r183_4_389 p1 p2 p3 p5 (f0_v251 p5).toNatClampNeg) (f0_A_r183_4_401 p1 p2 p3 p4 p5 (f0_v251 p5).toNatClampNeg) a1 a2 a3
    unfold f0_l32_693 f0_l32_670 f0_l32_647
    rw [own_lv, own_lv, own_lv]
    exact r
  have hown : f0_A_r183_3_401 p1 p2 p3 p4 p5 (f0_v251 p5).toNatClampNeg = f0_l31_621 p1 p2 p3 p4 p5 := by
    have a1 := own_olstep (f0_s0_274 p5) (f0_v151 p2) (f0_v163 p2) (f0_v175 p2) (f0_v251 p5) (f0_v42 p1) (f6_o0 (-1) 3 (fun _ => 0)) (own_v163 p2).1 hs.1
    have a2 := own_olstep (f0_s0_287 p5) (f0_v184 p3) (f0_v196 p3) (f0_v208 p3) (f0_v251 p5) (f0_v42 p1) (f0_A_r183_3_377 p1 p2 p5) (own_v196 p3).1 hs.1
    have a3 := own_olstep (f0_s0_300 p5) (f0_v217 p4) (f0_v229 p4) (f0_v241 p4) (f0_v251 p5) (f0_v42 p1) (f0_A_r183_3_389 p1 p2 p3 p5) (own_v229 p4).1 hs.1
    simp only [m1, hm, and_true] at a1
    have r := own_first _ _ _ _ _ _ (nz _ (own_v175 p2)) (nz _ (own_v208 p3)) (f0_A_r183_3_377 p1 p2 p5 (f0_v251 p5).toNatClampNeg) (f0_A_r183_3_389 p1 p2 p3 p5 (f0_v251 p5).toNatClampNeg) (f0_A_r183_3_401 p1 p2 p3 p4 p5 (f0_v251 p5).toNatClampNeg) a1 a2 a3
    unfold f0_l31_621 f0_l31_588 f0_l31_555
    rw [own_lw, own_lw, own_lw]
    exact r
  have goal : f0_v408 p1 p2 p3 p4 p5 = f0_l33_733 p1 p2 p3 p4 p5 := by
    unfold f0_v408 f7 f0_l33_733
    rw [hany, hown, hall]
    by_cases q : f0_A_r183_2_401 p1 p2 p3 p4 p5 (f0_v251 p5).toNatClampNeg = f0_v86 p1 (f0_v251 p5).toNatClampNeg
    · rw [if_pos q, if_pos (fin.mp q), if_neg (by decide)]
    · rw [if_neg q, if_neg (fun z => q (fin.mpr z)), if_pos rfl]
  unfold f0
  rw [if_pos goal]

set_option maxRecDepth 65536 in
set_option maxHeartbeats 40000000 in
theorem comes_1 {Post : Tables → Env → Array Value → State → Outcome → State → Prop} (hpost : ∀ tb e args s v u, (limb_1_1.after args s (.returned v) u = true ∧ limb_1_2.after args s (.returned v) u = true ∧ True) → FrameEnd s (.returned v) u (Jvm.fieldLocs frame_1_writes args s ++ Jvm.arrayLocs frame_1_arrays args s ++ Jvm.staticLocs frame_1_statics s) 40 192 → Post tb e args s (.returned v) u) :
    ArmFor flags0 classFile x code maxLocals ret World_1 tables_1 room_1 Calls_1 rest_1 Pre_1 Post := by
  intro l hfl _ _ p e ha hc hk s m args below hf hA hF happ hP
  obtain ⟨hcalls, hrest, hpre⟩ := hP
  obtain ⟨-, -, -, hnamed, -, -, -, hat⟩ := (Spec.applies_iff hf).mp happ
  obtain ⟨hg, hn⟩ := and_e (Cond.before_iff.mp (show (Jvm.Cond.and given_1 narrow_1).before args s = true from hpre))
  obtain ⟨g1, g2⟩ := and_e hg
  obtain ⟨g3, g4⟩ := and_e g2
  obtain ⟨g5, g6⟩ := and_e g4
  obtain ⟨g7, g8⟩ := and_e g6
  obtain ⟨g9, g10⟩ := and_e g8
  obtain ⟨w0, w1, w2, w3, w4, rfl⟩ : ∃ w0 w1 w2 w3 w4 : Value, args = #[w0, w1, w2, w3, w4] := by
    have hs : args.size = 5 := by simpa [Cond.value, given_1] using g1
    obtain ⟨L⟩ := args
    match L, hs with
    | [w0, w1, w2, w3, w4], _ => exact ⟨w0, w1, w2, w3, w4, rfl⟩
  have hw := fun d (hd : d ∈ tables_1) => atoms_spec (ws := Jvm.Cond.code x code maxLocals ret :: tables_1) hat d (List.mem_cons_of_mem _ hd)
  have hfit : Fit s := fun {y c} hc i hi => by
    obtain ⟨ha, rfl⟩ := Array.getElem?_eq_some_iff.mp hc
    have q := List.all_eq_true.mp ((Array.all_eq_true_iff_forall_mem.mp hF) _ (Array.getElem_mem ha)) i (List.mem_range.mpr hi)
    simpa [Array.getElem?_eq_getElem hi] using q
  obtain ⟨i0, ei0⟩ := is_v g3
  obtain rfl : w0 = (.int i0) := Option.some.inj ei0
  obtain ⟨i1, ei1⟩ := is_v g5
  obtain rfl : w1 = (.int i1) := Option.some.inj ei1
  obtain ⟨i2, ei2⟩ := is_v g7
  obtain rfl : w2 = (.int i2) := Option.some.inj ei2
  obtain ⟨i3, ei3⟩ := is_v g9
  obtain rfl : w3 = (.int i3) := Option.some.inj ei3
  obtain ⟨i4, ei4⟩ := is_v g10
  obtain rfl : w4 = (.int i4) := Option.some.inj ei4
  obtain ⟨n, o, h1, h2, h3, v', L, rfl, ⟨hv', N, -⟩, hq⟩ := rm0 l s _ hw tables_1 i0 i1 i2 i3 i4 s.heap s.heap.size (Nat.le_refl _)  p e ha hc hk s m _ below hf ((Spec.applies_iff_loose hf).mp happ).1 ⟨rfl, State.Warmed39.refl s, rfl⟩ trivial
  rw [own_law i0 i1 i2 i3 i4] at hv'
  subst hv'
  refine ⟨n, _, h1, h2, h3, hpost _ _ _ _ _ _ ⟨Cond.after_iff.mpr rfl, Cond.after_iff.mpr (eq_i res_at (Term.int_eval (1)) rfl), trivial⟩ ⟨hq.1, hq.2.1, (hq.2.2.sift fun y hy => Or.inr (N y hy)).mono (by decide) (by decide)⟩⟩
theorem main_1_1 : Claimed_1_1 := comes_1 fun _ _ _ _ _ _ h hF => ⟨h.1, hF⟩
theorem main_1_2 : Claimed_1_2 := comes_1 fun _ _ _ _ _ _ h hF => ⟨h.2.1, hF⟩
end Jvm.Pilot.@@N@@
namespace Jvm.Pilot.@@N@@
open Jvm Jvm.ClassFile Sem Op Lib Jvm.Free Jvm.Stand Jvm.Pilot.@@N@@.Jvm.D
/-! MADE BY PROGRAM (witnessworld.py) out of the Statement's table words and the real class files: 14 classes; the members and pool entries that the words name. The judged class is class 1, her method 3. -/
namespace start1
open Jvm.ClassFile
def u (s : String) : CpInfo := .utf8 (stringToUtf16 s)
/-- a pool by its gaps: so many unusable entries, then the entry; so many at the end -/
def gap : Nat → List CpInfo → List CpInfo
  | 0, r => r
  | n + 1, r => .unusable :: gap n r
def poolList (es : List (Nat × CpInfo)) (last : Nat) : List CpInfo := es.foldr (fun e r => gap e.1 (e.2 :: r)) (gap last [])
def pool (es : List (Nat × CpInfo)) (last : Nat) : Array CpInfo := ⟨poolList es last⟩
def fileOf (pool : Array CpInfo) (this : Nat) (attrs : Array Attribute := #[]) (ms : Array MethodInfo := #[]) (fl : Nat := 33) (sup : Nat := 0) (ifs : Array Nat := #[]) (fds : Array FieldInfo := #[]) : ClassFile where
  minorVersion := 0
  majorVersion := 65
  constantPool := pool
  accessFlags := fl
  thisClass := this
  superClass := sup
  interfaces := ifs
  fields := fds
  methods := ms
  attributes := attrs
def plain (name : String) (sup : Option ClassId) : Class where
  name := name
  kind := .ordinary
  loader := none
  accessFlags := 33
  super := sup
  interfaces := #[]
  cf := none
  fields := #[]
  methods := #[]
  instanceTypes := #[]
  staticTypes := #[]
  resolved := #[]
  callSites := []
  init := .initialized
  statics := none
  mirror := none

def pool0 : Array CpInfo := pool [(5, u "<init>"), (0, u "()V"), (1, .class_ 10), (1, u "java/lang/Object"), (85, u "clone"), (0, u "()Ljava/lang/Object;")] 26

def k0c0 : Code := { maxStack := 0, maxLocals := 1, code := object_method_1_code, exceptionTable := #[], attributes := #[] }
def k0m0 : Method := { name := "<init>", desc := "()V", sig := { parameters := [], returnType := none }, accessFlags := 1, code := some k0c0 }
def k0m1 : Method := { name := "clone", desc := "()Ljava/lang/Object;", sig := { parameters := [], returnType := some (.object "java/lang/Object") }, accessFlags := 260, code := none }
/-- java/lang/Object -/
def k0 : Class := { plain "java/lang/Object" none with
  accessFlags := 33
  interfaces := #[]
  cf := some (fileOf pool0 8 #[] #[{ accessFlags := 1, nameIndex := 5, descriptorIndex := 6, attributes := #[] }, { accessFlags := 260, nameIndex := 96, descriptorIndex := 97, attributes := #[] }] 33 0 #[] #[])
  fields := #[]
  methods := #[k0m0, k0m1]
  instanceTypes := #[]
  staticTypes := #[]
  resolved := Array.replicate 124 none
  statics := none }

def pool1 : Array CpInfo := pool [(2, .class_ 4), (1, u "java/lang/Object"), (0, u "<init>"), (0, u "()V"), (0, .methodref 8 9), (0, .class_ 10), (0, .nameAndType 11 12), (0, u "com/example/podflow/podflow/simulation/BallotVotePinLaw"), (0, u "cnt"), (0, u "(IIII)I"), (0, .class_ 14), (0, u "com/example/podflow/podflow/simulation/Pickup"), (0, .methodref 13 16), (0, .nameAndType 5 17), (0, u "(IJII)V"), (0, .class_ 19), (0, u "com/example/podflow/podflow/simulation/Ballot"), (0, .methodref 18 21), (0, .nameAndType 5 22), (0, u "([I[I[Z)V"), (0, .methodref 18 24), (0, .nameAndType 25 26), (0, u "count"), (0, u "(Lcom/example/podflow/podflow/simulation/Pickup;)V"), (0, .methodref 18 28), (0, .nameAndType 29 30), (0, u "vote"), (0, u "(I)I"), (0, .methodref 8 32), (0, .nameAndType 33 34), (0, u "firstTo"), (0, u "(IZIIZIIZII)I"), (3, u "law"), (0, u "(IIIII)Z")] 6

def k1m0 : Method := { name := "<init>", desc := "()V", sig := { parameters := [], returnType := none }, accessFlags := 1, code := none }
def k1c1 : Code := { maxStack := 3, maxLocals := 4, code := method_2_code, exceptionTable := #[], attributes := #[] }
def k1m1 : Method := { name := "cnt", desc := "(IIII)I", sig := { parameters := [.int, .int, .int, .int], returnType := some .int }, accessFlags := 10, code := some k1c1 }
def k1c2 : Code := { maxStack := 2, maxLocals := 11, code := method_3_code, exceptionTable := #[], attributes := #[] }
def k1m2 : Method := { name := "firstTo", desc := "(IZIIZIIZII)I", sig := { parameters := [.int, .boolean, .int, .int, .boolean, .int, .int, .boolean, .int, .int], returnType := some .int }, accessFlags := 10, code := some k1c2 }
def k1c3 : Code := { maxStack := 10, maxLocals := 34, code := code, exceptionTable := #[], attributes := #[] }
def k1m3 : Method := { name := "law", desc := "(IIIII)Z", sig := { parameters := [.int, .int, .int, .int, .int], returnType := some .boolean }, accessFlags := 9, code := some k1c3 }
/-- com/example/podflow/podflow/simulation/BallotVotePinLaw -/
def k1 : Class := { plain "com/example/podflow/podflow/simulation/BallotVotePinLaw" (some 0) with
  accessFlags := 49
  interfaces := #[]
  cf := some (fileOf pool1 8 #[] #[{ accessFlags := 1, nameIndex := 5, descriptorIndex := 6, attributes := #[] }, { accessFlags := 10, nameIndex := 11, descriptorIndex := 12, attributes := #[] }, { accessFlags := 10, nameIndex := 33, descriptorIndex := 34, attributes := #[] }, { accessFlags := 9, nameIndex := 38, descriptorIndex := 39, attributes := #[] }] 49 2 #[] #[])
  fields := #[]
  methods := #[k1m0, k1m1, k1m2, k1m3]
  instanceTypes := #[]
  staticTypes := #[]
  resolved := Array.replicate 46 none
  statics := none }

def pool2 : Array CpInfo := pool [(1, .methodref 2 3), (0, .class_ 4), (0, .nameAndType 5 6), (0, u "java/lang/Object"), (0, u "<init>"), (0, u "()V"), (0, .class_ 8), (0, u "java/lang/Record")] 13

def k2c0 : Code := { maxStack := 1, maxLocals := 1, code := jdk_30_method_1_code, exceptionTable := #[], attributes := #[] }
def k2m0 : Method := { name := "<init>", desc := "()V", sig := { parameters := [], returnType := none }, accessFlags := 4, code := some k2c0 }
/-- java/lang/Record -/
def k2 : Class := { plain "java/lang/Record" (some 0) with
  accessFlags := 1057
  interfaces := #[]
  cf := some (fileOf pool2 7 #[] #[{ accessFlags := 4, nameIndex := 5, descriptorIndex := 6, attributes := #[] }] 1057 2 #[] #[])
  fields := #[]
  methods := #[k2m0]
  instanceTypes := #[]
  staticTypes := #[]
  resolved := Array.replicate 22 none
  statics := none }

def pool3 : Array CpInfo := pool [(1, .methodref 2 3), (0, .class_ 4), (0, .nameAndType 5 6), (0, u "java/lang/Record"), (0, u "<init>"), (0, u "()V"), (0, .fieldref 8 9), (0, .class_ 10), (0, .nameAndType 11 12), (0, u "com/example/podflow/podflow/simulation/Pickup"), (0, u "vehicle"), (0, u "I"), (0, .fieldref 8 14), (0, .nameAndType 15 16), (0, u "time"), (0, u "J"), (0, .fieldref 8 18), (0, .nameAndType 19 12), (0, u "emptyFrom"), (0, .fieldref 8 21), (0, .nameAndType 22 12), (0, u "emptyTo"), (12, u "(IJII)V"), (4, u "()I")] 25

def k3c0 : Code := { maxStack := 3, maxLocals := 6, code := prog_63_method_1_code, exceptionTable := #[], attributes := #[] }
def k3m0 : Method := { name := "<init>", desc := "(IJII)V", sig := { parameters := [.int, .long, .int, .int], returnType := none }, accessFlags := 1, code := some k3c0 }
def k3c1 : Code := { maxStack := 1, maxLocals := 1, code := prog_63_method_5_code, exceptionTable := #[], attributes := #[] }
def k3m1 : Method := { name := "vehicle", desc := "()I", sig := { parameters := [], returnType := some .int }, accessFlags := 1, code := some k3c1 }
def k3c2 : Code := { maxStack := 1, maxLocals := 1, code := prog_63_method_7_code, exceptionTable := #[], attributes := #[] }
def k3m2 : Method := { name := "emptyFrom", desc := "()I", sig := { parameters := [], returnType := some .int }, accessFlags := 1, code := some k3c2 }
def k3c3 : Code := { maxStack := 1, maxLocals := 1, code := prog_63_method_8_code, exceptionTable := #[], attributes := #[] }
def k3m3 : Method := { name := "emptyTo", desc := "()I", sig := { parameters := [], returnType := some .int }, accessFlags := 1, code := some k3c3 }
/-- com/example/podflow/podflow/simulation/Pickup -/
def k3 : Class := { plain "com/example/podflow/podflow/simulation/Pickup" (some 2) with
  accessFlags := 49
  interfaces := #[]
  cf := some (fileOf pool3 8 #[] #[{ accessFlags := 1, nameIndex := 5, descriptorIndex := 35, attributes := #[] }, { accessFlags := 1, nameIndex := 11, descriptorIndex := 40, attributes := #[] }, { accessFlags := 1, nameIndex := 19, descriptorIndex := 40, attributes := #[] }, { accessFlags := 1, nameIndex := 22, descriptorIndex := 40, attributes := #[] }] 49 2 #[] #[{ accessFlags := 18, nameIndex := 11, descriptorIndex := 12, attributes := #[] }, { accessFlags := 18, nameIndex := 15, descriptorIndex := 16, attributes := #[] }, { accessFlags := 18, nameIndex := 19, descriptorIndex := 12, attributes := #[] }, { accessFlags := 18, nameIndex := 22, descriptorIndex := 12, attributes := #[] }])
  fields := #[{ name := "vehicle", type := .int, accessFlags := 18, slot := 0, constantValue := 0 }, { name := "time", type := .long, accessFlags := 18, slot := 1, constantValue := 0 }, { name := "emptyFrom", type := .int, accessFlags := 18, slot := 2, constantValue := 0 }, { name := "emptyTo", type := .int, accessFlags := 18, slot := 3, constantValue := 0 }]
  methods := #[k3m0, k3m1, k3m2, k3m3]
  instanceTypes := #[.int, .long, .int, .int]
  staticTypes := #[]
  resolved := Array.replicate 66 none
  statics := none }

def pool4 : Array CpInfo := pool [(1, .methodref 2 3), (0, .class_ 4), (0, .nameAndType 5 6), (0, u "java/lang/Object"), (0, u "<init>"), (0, u "()V"), (0, .fieldref 8 9), (0, .class_ 10), (0, .nameAndType 11 12), (0, u "com/example/podflow/podflow/simulation/Ballot"), (0, u "idleAt"), (0, u "[I"), (0, .fieldref 8 14), (0, .nameAndType 15 12), (0, u "idleCount"), (0, .methodref 17 18), (0, .class_ 19), (0, .nameAndType 20 21), (0, u "[Z"), (0, u "clone"), (0, u "()Ljava/lang/Object;"), (0, .fieldref 8 23), (0, .nameAndType 24 19), (0, u "open"), (0, .fieldref 8 26), (0, .nameAndType 27 12), (0, u "served"), (0, .fieldref 8 29), (0, .nameAndType 30 12), (0, u "servedHome"), (0, .fieldref 8 32), (0, .nameAndType 33 12), (0, u "ownLeaving"), (0, .fieldref 8 35), (0, .nameAndType 36 12), (0, u "anyLeaving"), (0, .fieldref 8 38), (0, .nameAndType 39 19), (0, u "counted"), (0, .methodref 41 42), (0, .class_ 43), (0, .nameAndType 44 45), (0, u "java/util/Arrays"), (0, u "fill"), (0, u "([II)V"), (0, .fieldref 8 47), (0, .nameAndType 48 49), (0, u "unsettled"), (0, u "I"), (0, .methodref 51 52), (0, .class_ 53), (0, .nameAndType 54 55), (0, u "com/example/podflow/podflow/simulation/Pickup"), (0, u "vehicle"), (0, u "()I"), (0, .methodref 51 57), (0, .nameAndType 58 55), (0, u "emptyFrom"), (0, .methodref 51 60), (0, .nameAndType 61 55), (0, u "emptyTo"), (0, .methodref 8 63), (0, .nameAndType 64 65), (0, u "settle"), (0, u "(I)V"), (0, u "([I[I[Z)V"), (4, u "count"), (0, u "(Lcom/example/podflow/podflow/simulation/Pickup;)V"), (2, u "vote"), (0, u "(I)I")] 2

def k4c0 : Code := { maxStack := 3, maxLocals := 9, code := prog_56_method_1_code, exceptionTable := #[], attributes := #[] }
def k4m0 : Method := { name := "<init>", desc := "([I[I[Z)V", sig := { parameters := [(.array .int), (.array .int), (.array .boolean)], returnType := none }, accessFlags := 0, code := some k4c0 }
def k4c1 : Code := { maxStack := 4, maxLocals := 6, code := prog_56_method_2_code, exceptionTable := #[], attributes := #[] }
def k4m1 : Method := { name := "count", desc := "(Lcom/example/podflow/podflow/simulation/Pickup;)V", sig := { parameters := [(.object "com/example/podflow/podflow/simulation/Pickup")], returnType := none }, accessFlags := 0, code := some k4c1 }
def k4c2 : Code := { maxStack := 3, maxLocals := 2, code := prog_56_method_4_code, exceptionTable := #[], attributes := #[] }
def k4m2 : Method := { name := "vote", desc := "(I)I", sig := { parameters := [.int], returnType := some .int }, accessFlags := 0, code := some k4c2 }
def k4c3 : Code := { maxStack := 3, maxLocals := 4, code := prog_56_method_5_code, exceptionTable := #[], attributes := #[] }
def k4m3 : Method := { name := "settle", desc := "(I)V", sig := { parameters := [.int], returnType := none }, accessFlags := 2, code := some k4c3 }
/-- com/example/podflow/podflow/simulation/Ballot -/
def k4 : Class := { plain "com/example/podflow/podflow/simulation/Ballot" (some 0) with
  accessFlags := 48
  interfaces := #[]
  cf := some (fileOf pool4 8 #[] #[{ accessFlags := 0, nameIndex := 5, descriptorIndex := 66, attributes := #[] }, { accessFlags := 0, nameIndex := 71, descriptorIndex := 72, attributes := #[] }, { accessFlags := 0, nameIndex := 75, descriptorIndex := 76, attributes := #[] }, { accessFlags := 2, nameIndex := 64, descriptorIndex := 65, attributes := #[] }] 48 2 #[] #[{ accessFlags := 18, nameIndex := 11, descriptorIndex := 12, attributes := #[] }, { accessFlags := 18, nameIndex := 15, descriptorIndex := 12, attributes := #[] }, { accessFlags := 18, nameIndex := 24, descriptorIndex := 19, attributes := #[] }, { accessFlags := 18, nameIndex := 27, descriptorIndex := 12, attributes := #[] }, { accessFlags := 18, nameIndex := 30, descriptorIndex := 12, attributes := #[] }, { accessFlags := 18, nameIndex := 33, descriptorIndex := 12, attributes := #[] }, { accessFlags := 18, nameIndex := 36, descriptorIndex := 12, attributes := #[] }, { accessFlags := 18, nameIndex := 39, descriptorIndex := 19, attributes := #[] }, { accessFlags := 2, nameIndex := 48, descriptorIndex := 49, attributes := #[] }])
  fields := #[{ name := "idleAt", type := (.array .int), accessFlags := 18, slot := 0, constantValue := 0 }, { name := "idleCount", type := (.array .int), accessFlags := 18, slot := 1, constantValue := 0 }, { name := "open", type := (.array .boolean), accessFlags := 18, slot := 2, constantValue := 0 }, { name := "served", type := (.array .int), accessFlags := 18, slot := 3, constantValue := 0 }, { name := "servedHome", type := (.array .int), accessFlags := 18, slot := 4, constantValue := 0 }, { name := "ownLeaving", type := (.array .int), accessFlags := 18, slot := 5, constantValue := 0 }, { name := "anyLeaving", type := (.array .int), accessFlags := 18, slot := 6, constantValue := 0 }, { name := "counted", type := (.array .boolean), accessFlags := 18, slot := 7, constantValue := 0 }, { name := "unsettled", type := .int, accessFlags := 2, slot := 8, constantValue := 0 }]
  methods := #[k4m0, k4m1, k4m2, k4m3]
  instanceTypes := #[(.array .int), (.array .int), (.array .boolean), (.array .int), (.array .int), (.array .int), (.array .int), (.array .boolean), .int]
  staticTypes := #[]
  resolved := Array.replicate 79 none
  statics := none }

def pool5 : Array CpInfo := pool [(1, .class_ 2), (0, u "java/lang/Cloneable"), (0, .class_ 4), (0, u "java/lang/Object")] 2

/-- java/lang/Cloneable -/
def k5 : Class := { plain "java/lang/Cloneable" (some 0) with
  accessFlags := 1537
  interfaces := #[]
  cf := some (fileOf pool5 1 #[] #[] 1537 3 #[] #[])
  fields := #[]
  methods := #[]
  instanceTypes := #[]
  staticTypes := #[]
  resolved := Array.replicate 7 none
  statics := none }

def pool6 : Array CpInfo := pool [(2, .class_ 4), (1, u "java/lang/Object"), (0, u "<init>"), (0, u "()V"), (7, .class_ 16), (1, u "java/util/Arrays"), (57, .class_ 76), (1, u "java/util/Arrays$NaturalOrder"), (36, .class_ 115), (1, u "java/util/Arrays$LegacyMergeSort"), (1, u "Z"), (257, .class_ 376), (0, u "java/util/Arrays$ArrayList"), (68, u "$assertionsDisabled"), (269, u "MIN_ARRAY_SORT_GRAN"), (0, u "I"), (2, u "INSERTIONSORT_THRESHOLD"), (120, u "fill"), (4, u "([II)V"), (129, .class_ 976), (0, u "java/util/Arrays$ArrayItr")] 52

def k6m0 : Method := { name := "<init>", desc := "()V", sig := { parameters := [], returnType := none }, accessFlags := 2, code := none }
def k6c1 : Code := { maxStack := 3, maxLocals := 4, code := jdk_65_method_103_code, exceptionTable := #[], attributes := #[] }
def k6m1 : Method := { name := "fill", desc := "([II)V", sig := { parameters := [(.array .int), .int], returnType := none }, accessFlags := 9, code := some k6c1 }
/-- java/util/Arrays -/
def k6 : Class := { plain "java/util/Arrays" (some 0) with
  accessFlags := 49
  interfaces := #[]
  cf := some (fileOf pool6 14 #[.nestMembers #[975, 375, 113, 74]] #[{ accessFlags := 2, nameIndex := 5, descriptorIndex := 6, attributes := #[] }, { accessFlags := 9, nameIndex := 840, descriptorIndex := 845, attributes := #[] }] 49 2 #[] #[{ accessFlags := 26, nameIndex := 715, descriptorIndex := 716, attributes := #[] }, { accessFlags := 26, nameIndex := 719, descriptorIndex := 716, attributes := #[] }, { accessFlags := 4120, nameIndex := 445, descriptorIndex := 117, attributes := #[] }])
  fields := #[{ name := "MIN_ARRAY_SORT_GRAN", type := .int, accessFlags := 26, slot := 0, constantValue := 0 }, { name := "INSERTIONSORT_THRESHOLD", type := .int, accessFlags := 26, slot := 1, constantValue := 0 }, { name := "$assertionsDisabled", type := .boolean, accessFlags := 4120, slot := 2, constantValue := 0 }]
  methods := #[k6m0, k6m1]
  instanceTypes := #[]
  staticTypes := #[.int, .int, .boolean]
  resolved := Array.replicate 1029 none
  statics := none }

def pool7 : Array CpInfo := pool [(1, u "java/io/Serializable"), (0, .class_ 1), (0, u "java/lang/Object"), (0, .class_ 3)] 3

/-- java/io/Serializable -/
def k7 : Class := { plain "java/io/Serializable" (some 0) with
  accessFlags := 1537
  interfaces := #[]
  cf := some (fileOf pool7 2 #[] #[] 1537 4 #[] #[])
  fields := #[]
  methods := #[]
  instanceTypes := #[]
  staticTypes := #[]
  resolved := Array.replicate 8 none
  statics := none }

/-- the primitive boolean -/
def k8 : Class := { plain "boolean" none with kind := .primitive 'Z', accessFlags := 0x411 }
/-- [Z -/
def k9 : Class := { plain "[Z" (some 0) with kind := .array 8 .boolean, interfaces := #[5, 7], accessFlags := 1041 }

/-- the primitive byte -/
def k10 : Class := { plain "byte" none with kind := .primitive 'B', accessFlags := 0x411 }
/-- [B -/
def k11 : Class := { plain "[B" (some 0) with kind := .array 10 .byte, interfaces := #[5, 7], accessFlags := 1041 }

/-- the primitive int -/
def k12 : Class := { plain "int" none with kind := .primitive 'I', accessFlags := 0x411 }
/-- [I -/
def k13 : Class := { plain "[I" (some 0) with kind := .array 12 .int, interfaces := #[5, 7], accessFlags := 1041 }

def heap : Heap := #[]
def classes : Array Class := #[k0, k1, k2, k3, k4, k5, k6, k7, k8, k9, k10, k11, k12, k13]
def interned : List (Array UInt16 × Addr) := []
def slotsUsed : Nat := 0
def theMethod : MethodId := ⟨1, 3⟩
def args0 : Array Value := #[.int 5, .int 3, .int 4, .int 1, .int 259]
def aboutOver (below : List Frame) : State where
  vm := { classes := classes, interned := interned.toArray }
  heap := heap
  slotsUsed := slotsUsed
  threads := #[{ frames := .invoking theMethod args0 :: below }]
def below0 : List Frame := [.native { method := ⟨0, 0⟩, args := #[] }]
def about1 : State := aboutOver below0
def p0 : Program := .bare "" "" ""
def e0 : Env := launch0.env 0 0 0
theorem w_frames : about1.frames = Frame.invoking theMethod args0 :: below0 := rfl
set_option maxRecDepth 65536 in
theorem w_args : argsFit about1.vm theMethod args0 = true := by decide +kernel
set_option maxRecDepth 65536 in
theorem w_heap : heapFits about1 = true := by decide +kernel
set_option maxRecDepth 65536 in
theorem w_runnable : about1.curStatus? = some .runnable := by decide +kernel
set_option maxRecDepth 65536 in
theorem w_alone : about1.alone = true := by decide +kernel
set_option maxRecDepth 65536 in
theorem w_named : about1.methodNamed? x = some theMethod := by decide +kernel
set_option maxRecDepth 65536 in
theorem w_hears : about1.hears theMethod below0 = true := by decide +kernel
set_option maxRecDepth 65536 in
theorem w_ripe : about1.ripe theMethod args0 below0 = true := by decide +kernel
theorem w_running : about1.status = .running := rfl
set_option maxRecDepth 65536 in
theorem w_room : about1.hasRoom e0.platform room_1 = true :=
  launch0.hasRoom_least _ room_1 (by decide +kernel) (by decide +kernel) (by decide +kernel) (by decide +kernel) (by decide +kernel) (by decide +kernel)
theorem allAtoms_all (ts : List Jvm.Cond) (a : Array Jvm.Value) (st : Jvm.State) : (allAtoms ts).before a st = ts.all (fun c => c.before a st) := by
  induction ts with
  | nil => rfl
  | cons c t ih =>
    show (Jvm.Cond.and c (allAtoms t)).before a st = _
    rw [Jvm.Cond.before_and, ih, List.all_cons]
def words1 : List Jvm.Cond := Jvm.Cond.code x code maxLocals ret :: tables_1
/-- a 'code' word, met by the world's own term for the bytes: nothing is compared byte by byte -/
theorem code_word {y : MethodName} {bytes : ByteArray} {mx : Nat} {rt : Option FieldType} {a : Array Value} {s : State} {m : MethodId} {meth : Method} {c : Code} (h1 : s.methodNamed? y = some m) (h2 : s.vm.method? m = some meth) (h3 : meth.code = some c) (h4 : c.code = bytes)
    (h5 : (c.maxLocals == mx && c.exceptionTable.isEmpty && decide (c.maxStack ≤ mostOperands) && decide (meth.sig.returnType = rt) && !meth.locks && decide (parseMethodDescriptor y.desc = some meth.sig)) = true) : (Jvm.Cond.code y bytes mx rt).before a s = true := by
  simp only [Bool.and_eq_true, beq_iff_eq, Bool.not_eq_true', decide_eq_true_eq] at h5
  obtain ⟨⟨⟨⟨⟨g1, g2⟩, g3⟩, g4⟩, g5⟩, g6⟩ := h5
  simp [Cond.before, Cond.holds, Cond.value, h1, h2, h3, h4, g1, g2, g3, g4, g5, g6]
def isCode : Jvm.Cond → Bool
  | .code _ _ _ _ => true
  | _ => false
theorem all_split {L : List Jvm.Cond} {P : Jvm.Cond → Bool} (h1 : L.all (fun c => isCode c || P c) = true) (h2 : ∀ c ∈ L.filter isCode, P c = true) : L.all P = true := by
  refine List.all_eq_true.mpr fun c hc => ?_
  have h := List.all_eq_true.mp h1 c hc
  rcases Bool.eq_false_or_eq_true (isCode c) with hi | hi
  · exact h2 c (List.mem_filter.mpr ⟨hc, hi⟩)
  · simpa [hi] using h
set_option maxRecDepth 65536 in
theorem w_c0 : (Jvm.Cond.code x code maxLocals ret).before args0 about1 = true := code_word (m := ⟨1, 3⟩) (meth := k1m3) (c := k1c3) (by decide +kernel) rfl rfl rfl (by decide +kernel)
set_option maxRecDepth 65536 in
theorem w_c1 : (Jvm.Cond.code ({ cls := "com/example/podflow/podflow/simulation/BallotVotePinLaw", name := "cnt", desc := "(IIII)I" } : Jvm.MethodName) method_2_code (4 : Nat) (Option.some Jvm.ClassFile.FieldType.int)).before args0 about1 = true := code_word (m := ⟨1, 1⟩) (meth := k1m1) (c := k1c1) (by decide +kernel) rfl rfl rfl (by decide +kernel)
set_option maxRecDepth 65536 in
theorem w_c2 : (Jvm.Cond.code ({ cls := "com/example/podflow/podflow/simulation/Pickup", name := "<init>", desc := "(IJII)V" } : Jvm.MethodName) prog_63_method_1_code (6 : Nat) (Option.none : Option Jvm.ClassFile.FieldType)).before args0 about1 = true := code_word (m := ⟨3, 0⟩) (meth := k3m0) (c := k3c0) (by decide +kernel) rfl rfl rfl (by decide +kernel)
set_option maxRecDepth 65536 in
theorem w_c3 : (Jvm.Cond.code ({ cls := "java/lang/Record", name := "<init>", desc := "()V" } : Jvm.MethodName) jdk_30_method_1_code (1 : Nat) (Option.none : Option Jvm.ClassFile.FieldType)).before args0 about1 = true := code_word (m := ⟨2, 0⟩) (meth := k2m0) (c := k2c0) (by decide +kernel) rfl rfl rfl (by decide +kernel)
set_option maxRecDepth 65536 in
theorem w_c4 : (Jvm.Cond.code ({ cls := "java/lang/Object", name := "<init>", desc := "()V" } : Jvm.MethodName) object_method_1_code (1 : Nat) (Option.none : Option Jvm.ClassFile.FieldType)).before args0 about1 = true := code_word (m := ⟨0, 0⟩) (meth := k0m0) (c := k0c0) (by decide +kernel) rfl rfl rfl (by decide +kernel)
set_option maxRecDepth 65536 in
theorem w_c5 : (Jvm.Cond.code ({ cls := "com/example/podflow/podflow/simulation/Ballot", name := "<init>", desc := "([I[I[Z)V" } : Jvm.MethodName) prog_56_method_1_code (9 : Nat) (Option.none : Option Jvm.ClassFile.FieldType)).before args0 about1 = true := code_word (m := ⟨4, 0⟩) (meth := k4m0) (c := k4c0) (by decide +kernel) rfl rfl rfl (by decide +kernel)
set_option maxRecDepth 65536 in
theorem w_c6 : (Jvm.Cond.code ({ cls := "java/util/Arrays", name := "fill", desc := "([II)V" } : Jvm.MethodName) jdk_65_method_103_code (4 : Nat) (Option.none : Option Jvm.ClassFile.FieldType)).before args0 about1 = true := code_word (m := ⟨6, 1⟩) (meth := k6m1) (c := k6c1) (by decide +kernel) rfl rfl rfl (by decide +kernel)
set_option maxRecDepth 65536 in
theorem w_c7 : (Jvm.Cond.code ({ cls := "com/example/podflow/podflow/simulation/Ballot", name := "vote", desc := "(I)I" } : Jvm.MethodName) prog_56_method_4_code (2 : Nat) (Option.some Jvm.ClassFile.FieldType.int)).before args0 about1 = true := code_word (m := ⟨4, 2⟩) (meth := k4m2) (c := k4c2) (by decide +kernel) rfl rfl rfl (by decide +kernel)
set_option maxRecDepth 65536 in
theorem w_c8 : (Jvm.Cond.code ({ cls := "com/example/podflow/podflow/simulation/Ballot", name := "count", desc := "(Lcom/example/podflow/podflow/simulation/Pickup;)V" } : Jvm.MethodName) prog_56_method_2_code (6 : Nat) (Option.none : Option Jvm.ClassFile.FieldType)).before args0 about1 = true := code_word (m := ⟨4, 1⟩) (meth := k4m1) (c := k4c1) (by decide +kernel) rfl rfl rfl (by decide +kernel)
set_option maxRecDepth 65536 in
theorem w_c9 : (Jvm.Cond.code ({ cls := "com/example/podflow/podflow/simulation/Pickup", name := "vehicle", desc := "()I" } : Jvm.MethodName) prog_63_method_5_code (1 : Nat) (Option.some Jvm.ClassFile.FieldType.int)).before args0 about1 = true := code_word (m := ⟨3, 1⟩) (meth := k3m1) (c := k3c1) (by decide +kernel) rfl rfl rfl (by decide +kernel)
set_option maxRecDepth 65536 in
theorem w_c10 : (Jvm.Cond.code ({ cls := "com/example/podflow/podflow/simulation/Pickup", name := "emptyFrom", desc := "()I" } : Jvm.MethodName) prog_63_method_7_code (1 : Nat) (Option.some Jvm.ClassFile.FieldType.int)).before args0 about1 = true := code_word (m := ⟨3, 2⟩) (meth := k3m2) (c := k3c2) (by decide +kernel) rfl rfl rfl (by decide +kernel)
set_option maxRecDepth 65536 in
theorem w_c11 : (Jvm.Cond.code ({ cls := "com/example/podflow/podflow/simulation/Pickup", name := "emptyTo", desc := "()I" } : Jvm.MethodName) prog_63_method_8_code (1 : Nat) (Option.some Jvm.ClassFile.FieldType.int)).before args0 about1 = true := code_word (m := ⟨3, 3⟩) (meth := k3m3) (c := k3c3) (by decide +kernel) rfl rfl rfl (by decide +kernel)
set_option maxRecDepth 65536 in
theorem w_c12 : (Jvm.Cond.code ({ cls := "com/example/podflow/podflow/simulation/Ballot", name := "settle", desc := "(I)V" } : Jvm.MethodName) prog_56_method_5_code (4 : Nat) (Option.none : Option Jvm.ClassFile.FieldType)).before args0 about1 = true := code_word (m := ⟨4, 3⟩) (meth := k4m3) (c := k4c3) (by decide +kernel) rfl rfl rfl (by decide +kernel)
set_option maxRecDepth 65536 in
theorem w_c13 : (Jvm.Cond.code ({ cls := "com/example/podflow/podflow/simulation/BallotVotePinLaw", name := "firstTo", desc := "(IZIIZIIZII)I" } : Jvm.MethodName) method_3_code (11 : Nat) (Option.some Jvm.ClassFile.FieldType.int)).before args0 about1 = true := code_word (m := ⟨1, 2⟩) (meth := k1m2) (c := k1c2) (by decide +kernel) rfl rfl rfl (by decide +kernel)
def codes1 : List Jvm.Cond := [Jvm.Cond.code x code maxLocals ret, Jvm.Cond.code ({ cls := "com/example/podflow/podflow/simulation/BallotVotePinLaw", name := "cnt", desc := "(IIII)I" } : Jvm.MethodName) method_2_code (4 : Nat) (Option.some Jvm.ClassFile.FieldType.int), Jvm.Cond.code ({ cls := "com/example/podflow/podflow/simulation/Pickup", name := "<init>", desc := "(IJII)V" } : Jvm.MethodName) prog_63_method_1_code (6 : Nat) (Option.none : Option Jvm.ClassFile.FieldType), Jvm.Cond.code ({ cls := "java/lang/Record", name := "<init>", desc := "()V" } : Jvm.MethodName) jdk_30_method_1_code (1 : Nat) (Option.none : Option Jvm.ClassFile.FieldType), Jvm.Cond.code ({ cls := "java/lang/Object", name := "<init>", desc := "()V" } : Jvm.MethodName) object_method_1_code (1 : Nat) (Option.none : Option Jvm.ClassFile.FieldType), Jvm.Cond.code ({ cls := "com/example/podflow/podflow/simulation/Ballot", name := "<init>", desc := "([I[I[Z)V" } : Jvm.MethodName) prog_56_method_1_code (9 : Nat) (Option.none : Option Jvm.ClassFile.FieldType), Jvm.Cond.code ({ cls := "java/util/Arrays", name := "fill", desc := "([II)V" } : Jvm.MethodName) jdk_65_method_103_code (4 : Nat) (Option.none : Option Jvm.ClassFile.FieldType), Jvm.Cond.code ({ cls := "com/example/podflow/podflow/simulation/Ballot", name := "vote", desc := "(I)I" } : Jvm.MethodName) prog_56_method_4_code (2 : Nat) (Option.some Jvm.ClassFile.FieldType.int), Jvm.Cond.code ({ cls := "com/example/podflow/podflow/simulation/Ballot", name := "count", desc := "(Lcom/example/podflow/podflow/simulation/Pickup;)V" } : Jvm.MethodName) prog_56_method_2_code (6 : Nat) (Option.none : Option Jvm.ClassFile.FieldType), Jvm.Cond.code ({ cls := "com/example/podflow/podflow/simulation/Pickup", name := "vehicle", desc := "()I" } : Jvm.MethodName) prog_63_method_5_code (1 : Nat) (Option.some Jvm.ClassFile.FieldType.int), Jvm.Cond.code ({ cls := "com/example/podflow/podflow/simulation/Pickup", name := "emptyFrom", desc := "()I" } : Jvm.MethodName) prog_63_method_7_code (1 : Nat) (Option.some Jvm.ClassFile.FieldType.int), Jvm.Cond.code ({ cls := "com/example/podflow/podflow/simulation/Pickup", name := "emptyTo", desc := "()I" } : Jvm.MethodName) prog_63_method_8_code (1 : Nat) (Option.some Jvm.ClassFile.FieldType.int), Jvm.Cond.code ({ cls := "com/example/podflow/podflow/simulation/Ballot", name := "settle", desc := "(I)V" } : Jvm.MethodName) prog_56_method_5_code (4 : Nat) (Option.none : Option Jvm.ClassFile.FieldType), Jvm.Cond.code ({ cls := "com/example/podflow/podflow/simulation/BallotVotePinLaw", name := "firstTo", desc := "(IZIIZIIZII)I" } : Jvm.MethodName) method_3_code (11 : Nat) (Option.some Jvm.ClassFile.FieldType.int)]
set_option maxRecDepth 65536 in
theorem codes_eq : words1.filter isCode = codes1 := rfl
theorem w_codes : ∀ c ∈ words1.filter isCode, c.before args0 about1 = true := by
  rw [codes_eq]
  intro c hc
  simp only [codes1, List.mem_cons, List.not_mem_nil, or_false] at hc
  rcases hc with rfl | rfl | rfl | rfl | rfl | rfl | rfl | rfl | rfl | rfl | rfl | rfl | rfl | rfl
  · exact w_c0
  · exact w_c1
  · exact w_c2
  · exact w_c3
  · exact w_c4
  · exact w_c5
  · exact w_c6
  · exact w_c7
  · exact w_c8
  · exact w_c9
  · exact w_c10
  · exact w_c11
  · exact w_c12
  · exact w_c13
set_option maxRecDepth 65536 in
theorem w_t1 : (words1.take 24).all (fun c => isCode c || c.before args0 about1) = true := by decide +kernel
set_option maxRecDepth 65536 in
theorem w_t2 : ((words1.drop 24).take 24).all (fun c => isCode c || c.before args0 about1) = true := by decide +kernel
set_option maxRecDepth 65536 in
theorem w_t3 : (((words1.drop 24).drop 24).take 24).all (fun c => isCode c || c.before args0 about1) = true := by decide +kernel
set_option maxRecDepth 65536 in
theorem w_t4 : ((((words1.drop 24).drop 24).drop 24).take 24).all (fun c => isCode c || c.before args0 about1) = true := by decide +kernel
set_option maxRecDepth 65536 in
theorem w_t5 : ((((words1.drop 24).drop 24).drop 24).drop 24).all (fun c => isCode c || c.before args0 about1) = true := by decide +kernel
theorem w_tables : (allAtoms (Jvm.Cond.code x code maxLocals ret :: tables_1)).before args0 about1 = true := by
  rw [allAtoms_all]
  show words1.all (fun c => c.before args0 about1) = true
  refine all_split ?_ w_codes
  rw [← List.take_append_drop 24 words1, List.all_append, w_t1, ← List.take_append_drop 24 (words1.drop 24), List.all_append, w_t2, ← List.take_append_drop 24 ((words1.drop 24).drop 24), List.all_append, w_t3, ← List.take_append_drop 24 (((words1.drop 24).drop 24).drop 24), List.all_append, w_t4, w_t5]
  rfl
set_option maxRecDepth 65536 in
theorem w_case : (Jvm.Cond.and given_1 narrow_1).before args0 about1 = true := by decide +kernel
theorem w_applies : (headSpec (Jvm.Cond.code x code maxLocals ret :: tables_1) room_1).applies x e0.platform about1 = true :=
  (Spec.applies_iff w_frames).mpr ⟨w_running, w_runnable, w_alone, w_named, w_hears, w_ripe, w_room, w_tables⟩
theorem atStart : AtStart classFile x code maxLocals ret World_1 tables_1 room_1 Calls_1 rest_1 Pre_1 launch0 p0 e0 about1 theMethod args0 below0 :=
  ⟨lists_1, trivial, launch0.admits_env _ _ _, launch0.least_env, fairChoices_fair.cas, fairChoices_fair.clock, w_frames, w_args, w_heap, w_applies, trivial, trivial, w_case⟩
end start1
theorem witness_1 : WitnessClaimed_1 := ⟨start1.p0, start1.e0, start1.about1, start1.theMethod, start1.args0, start1.below0, start1.atStart⟩
end Jvm.Pilot.@@N@@
