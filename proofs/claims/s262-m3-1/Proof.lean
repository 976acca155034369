import JvmDerived
import JvmDerived.Pilot.@@N@@Statement
import JvmDerived.Pilot.@@N@@Code
set_option linter.unusedVariables false
set_option linter.unusedSimpArgs false
namespace Jvm.RoadKit
open Sem ClassFile Op Lib Jvm.Stand Jvm.Free Jvm.LawKit
def IAr (Z : State) (h : Heap) (a : Addr) (ty : FieldType) (n : Int32) (f : Nat → Int32) : Prop := ∃ c : Cell, Arr Z h a c ty ∧ c.slots.size = n.toNatClampNeg ∧ ¬ n < 0 ∧ ∀ i, i < c.slots.size → c.slots[i]? = some (.int (f i))
def ownU (f : Nat → Int32) (j : Nat) (v : Int32) : Nat → Int32 := fun i => if i = j then v else f i
section
variable {Z : State} {h h' : Heap} {a b : Addr} {ty : FieldType} {n : Int32} {f : Nat → Int32} {sl : Nat} {v : Value} {ws : List Addr}
theorem IAr.lt (F : IAr Z h a ty n f) : a < h.size := by obtain ⟨c, A, -⟩ := F; exact A.lt
theorem IAr.ext (F : IAr Z h a ty n f) (E : Ext h h') : IAr Z h' a ty n f := by obtain ⟨c, A, r⟩ := F; exact ⟨c, A.ext E, r⟩
theorem IAr.other (F : IAr Z h b ty n f) (W : Wr h h' a sl v) (q : b ≠ a) : IAr Z h' b ty n f := by obtain ⟨c, A, r⟩ := F; exact ⟨c, A.other W q, r⟩
theorem IAr.keep (F : IAr Z h a ty n f) (K : Keep h h' ws) (q : a ∉ ws) : IAr Z h' a ty n f := by obtain ⟨c, A, r⟩ := F; exact ⟨c, ⟨K.2.1 a c A.1 q, A.2⟩, r⟩
theorem IAr.nn (F : IAr Z h a ty n f) : ¬ n < 0 := by obtain ⟨c, A, S, q, r⟩ := F; exact q
theorem IAr.new {k : ClassId} {z : Int32} (A : Arr Z h a (newA k ty z) ty) (q : ¬ z < 0) (hd : defaultValue ty = .int 0) : IAr Z h a ty z (fun _ => 0) := by
  obtain ⟨c, A', -, S, q', H, -⟩ := Arv.new A q
  exact ⟨c, A', S, q', fun i hi => by have h1 := H i hi; rw [hd] at h1; simpa using h1⟩
theorem IAr.set {j : Nat} {x : Int32} (F : IAr Z h a ty n f) (W : Wr h h' a j (.int x)) : IAr Z h' a ty n (ownU f j x) := by
  obtain ⟨c, A, S, q, H⟩ := F
  refine ⟨c.setSlot j (.int x), A.same W, ?_, q, fun i hi => ?_⟩
  · simpa [Cell.setSlot] using S
  · have hi' : i < c.slots.size := by simpa [Cell.setSlot] using hi
    show (c.slots.setIfInBounds j (.int x))[i]? = some (.int (if i = j then x else f i))
    by_cases e : i = j
    · subst e
      rw [if_pos rfl, Array.getElem?_setIfInBounds_self_of_lt hi']
    · rw [if_neg e, Array.getElem?_setIfInBounds_ne (Ne.symm e)]
      exact H i hi'
end
section New
variable {p : Program} {l : Launch} {e : Env} {R : Room} {s : State} {m : MethodId} {args : Array Value} {below : List Frame} {meth : Method} {c : Code} {T : State} {locs : List Loc} {cells slots : Nat}
theorem retI (X : Stand p l e R s m args below meth c T locs cells slots) (hx : p.tables.exec = Jvm.exec) {pc : Nat} {Ls : Array Slot} {z : Int32} {rest : List Value} (hret : meth.sig.returnType = some .int) (hd : decode c.code pc = .ok (.ireturn, 1)) {fs : List Frame}
    (hl : ∀ (f : JFrame) (acts : List Action), f.method = m → f.locked = none → f.entered = [] → (doReturn e (T.setTop f) acts (some (.int z))).1 = T.setFrames fs) : Steps p.tables e below (T.setTop (mkF m pc Ls (.int z :: rest))) (T.setFrames fs) := by
  have hm' : T.vm.method? m = some meth := X.method'
  have hn : narrow .int (.int z) = .int z := rfl
  show Steps p.tables e below (T.setTop { method := m, pc := pc, locals := Ls, stack := _ :: rest, locked := none }) _
  jvm_step X.here [X.here.top, hx, hd, hm', hret, hn]
  first | (intro acts; rw [hl _ acts rfl rfl rfl]) | rw [hl _ _ rfl rfl rfl]
  exact Steps.refl _
theorem ldB {Z : State} {h : Heap} (X : Stand p l e R s m args below meth c T locs cells slots) (hx : p.tables.exec = Jvm.exec) (hZ : Z.Warmed39 s.vm) (eT : T.heap = h) {a : Addr} {n : Int32} {f : Nat → Int32} (F : IAr Z h a .byte n f) {j : Int32} (hj : ¬ j < 0 ∧ j < n) {g : JFrame} (hg : g.method = m) {rest : List Value} (hs : g.stack = .int j :: .ref a :: rest) (hd : decode c.code g.pc = .ok (.baload, 1)) {target : State}
    (hr : Steps p.tables e below (T.setTop { g with pc := g.pc + 1, stack := .int (f j.toNatClampNeg) :: rest }) target) : Steps p.tables e below (T.setTop g) target := by
  obtain ⟨cl, A, S, q, H⟩ := F
  exact X.baloadBytes hx (by rw [eT]; exact A.1) (State.isArrayOf_alike hZ.alike A.2.1) A.2.2 (inb_of S hj) (H _ (Nat.lt_of_not_le fun y => inb_of S hj (Or.inr y))) hg hs hd _ hr
theorem sB {Z : State} {h : Heap} (X : Stand p l e R s m args below meth c T locs cells slots) (hx : p.tables.exec = Jvm.exec) (hZ : Z.Warmed39 s.vm) (eT : T.heap = h) {a : Addr} {n : Int32} {f : Nat → Int32} (F : IAr Z h a .byte n f) {j : Int32} {x : Int32} (hj : ¬ j < 0 ∧ j < n) {g : JFrame} (hg : g.method = m) {rest : List Value} (hs : g.stack = .int x :: .int j :: .ref a :: rest) (hd : decode c.code g.pc = .ok (.bastore, 1)) :
    ∃ T' h', Stand p l e R s m args below meth c T' (locs ++ [⟨a, j.toNatClampNeg⟩]) cells slots ∧ T'.heap = h' ∧ Wr h h' a j.toNatClampNeg (.int (nar .byte x)) ∧ IAr Z h' a .byte n (ownU f j.toNatClampNeg (nar .byte x)) ∧ ∀ target, Steps p.tables e below (T'.setTop { g with pc := g.pc + 1, stack := rest }) target → Steps p.tables e below (T.setTop g) target := by
  have F' := F
  obtain ⟨cl, A, S, q, H⟩ := F
  obtain ⟨T', h', X', e', W', st'⟩ := stB X hx hZ eT A (inb_of S hj) hg hs hd
  exact ⟨T', h', X', e', W', F'.set W', st'⟩
theorem alen {Z : State} {h : Heap} (X : Stand p l e R s m args below meth c T locs cells slots) (hx : p.tables.exec = Jvm.exec) (hZ : Z.Warmed39 s.vm) (eT : T.heap = h) {a : Addr} {ty : FieldType} {n : Int32} {f : Nat → Int32} (F : IAr Z h a ty n f) {g : JFrame} (hg : g.method = m) {rest : List Value} (hs : g.stack = .ref a :: rest) (hd : decode c.code g.pc = .ok (.arraylength, 1)) {target : State}
    (hr : Steps p.tables e below (T.setTop { g with pc := g.pc + 1, stack := .int n :: rest }) target) : Steps p.tables e below (T.setTop g) target := by
  obtain ⟨cl, A, S, q, H⟩ := F
  refine X.arraylength hx (by rw [eT]; exact A.1) (State.isArrayOf_alike hZ.alike A.2.1) hg hs hd _ ?_
  rw [len_of S q]
  exact hr
end New
end Jvm.RoadKit
namespace Jvm.Pilot.@@N@@
open Jvm Jvm.ClassFile Sem Op Lib Jvm.Free Jvm.Stand Jvm.LawKit Jvm.RoadKit Bundle Jvm.Pilot.@@N@@.Jvm.D
theorem own_rem (x y : Int32) : x - (x / y) * y = x % y := by
  apply Int32.toInt_inj.mp
  have h1 := Int32.le_toInt (x % y)
  have h2 := Int32.toInt_lt (x % y)
  rw [Int32.toInt_sub, Int32.toInt_mul, Int32.toInt_div, Int.bmod_mul_bmod, Int.sub_bmod_bmod, Int.mul_comm (x.toInt.tdiv y.toInt), ← Int.tmod_def, ← Int32.toInt_mod]
  exact Int.bmod_eq_of_le_mul_two (by omega) (by omega)
theorem own_nat (x : Int32) : (x.toBitVec.toNat : Int) = x.toInt % 4294967296 := by
  have h := x.toBitVec.isLt
  show _ = x.toBitVec.toInt % 4294967296
  rw [BitVec.toInt_eq_toNat_cond]; split <;> omega
theorem own_mask (x m : Int32) (k : Nat) (hm : m.toBitVec.toNat = 2 ^ k - 1) : (x &&& m).toBitVec.toNat = x.toBitVec.toNat % 2 ^ k := by
  show (x.toBitVec &&& m.toBitVec).toNat = _
  rw [BitVec.toNat_and, hm, Nat.and_two_pow_sub_one_eq_mod]

theorem pn_0 : plainName "com/example/erewash/erewash/RobotsTxtParserNamesEveryonePinLaw" = true := by first | (simp [plainName, overriddenIn]; done) | decide +kernel
theorem d1_0 : decode method_2_code 0 = .ok (.iload_n 0, 1) := by decide +kernel
theorem d1_1 : decode method_2_code 1 = .ok (.bipush 8, 2) := by decide +kernel
theorem d1_3 : decode method_2_code 3 = .ok (.iushr, 1) := by decide +kernel
theorem d1_4 : decode method_2_code 4 = .ok (.iconst 1, 1) := by decide +kernel
theorem d1_5 : decode method_2_code 5 = .ok (.iand, 1) := by decide +kernel
theorem d1_6 : decode method_2_code 6 = .ok (.ifCond .ne 6, 3) := by decide +kernel
theorem d1_9 : decode method_2_code 9 = .ok (.bipush 42, 2) := by decide +kernel
theorem d1_11 : decode method_2_code 11 = .ok (.ireturn, 1) := by decide +kernel
theorem d1_12 : decode method_2_code 12 = .ok (.iload_n 0, 1) := by decide +kernel
theorem d1_13 : decode method_2_code 13 = .ok (.i2b, 1) := by decide +kernel
theorem d1_14 : decode method_2_code 14 = .ok (.ireturn, 1) := by decide +kernel
theorem ef_1 (m : MethodId) (x0 : Int32) : entryFrame m #[(.int x0)] 1 = mkF m 0 #[.val (.int x0)] [] := by first | (simp [entryFrame, mkF, argsToLocals, Value.category]; done) | rfl
def f1 (p1 : Int32) : Int32 := (if (((p1.toUInt32 >>> ((8 : Int32) &&& 31).toUInt32).toInt32) &&& (1 : Int32)) = (0 : Int32) then (nar .byte (42 : Int32)) else (nar .byte (p1.toInt8.toInt32)))
def Q1 (Z : State) (p1 : Int32) (h0 : Heap) (n0 : Nat) (v : Option Value) (h : Heap) (L : List Loc) : Prop := v = some (.int (f1 p1)) ∧ Fr n0 L ∧ h = h0
set_option maxRecDepth 65536 in
set_option maxHeartbeats 40000000 in
theorem rm1 (l : Launch) (Z : State) (a0 : Array Value) (hw : ∀ d ∈ tables_1, d.before a0 Z = true) (ws : List Jvm.Cond) (p1 : Int32) (h0 : Heap) (n0 : Nat) (Z0 : n0 ≤ h0.size) :
    MetFree l (⟨"com/example/erewash/erewash/RobotsTxtParserNamesEveryonePinLaw", "draw", "(I)B"⟩ : MethodName) (head1 (Jvm.Cond.code (⟨"com/example/erewash/erewash/RobotsTxtParserNamesEveryonePinLaw", "draw", "(I)B"⟩ : MethodName) method_2_code 1 (some .byte) :: ws) ({ frames := 0, cells := 0, slots := 0, locals := 0 } : Room)) (fun a U => a = #[(.int p1)] ∧ Z.Warmed39 U.vm ∧ U.heap = h0) (fun _ _ _ _ _ => True) (fun _ U o U' => ∃ v L, o = .returned v ∧ Q1 Z p1 h0 n0 v U'.heap L ∧ FrameEnd U o U' L ({ frames := 0, cells := 0, slots := 0, locals := 0 } : Room).cells ({ frames := 0, cells := 0, slots := 0, locals := 0 } : Room).slots) := by
  refine MetFree.of_bodySF (plainFor_of_name pn_0) hisR ?_
  intro p e s m args below meth c s₁ Bd hml0 hP hK
  obtain ⟨rfl, hZ, hh⟩ := hP
  have hx := Bd.exec
  have hby := Bd.bytes
  have hml : c.maxLocals = 1 := hml0
  have hown : s.vm.findClass "com/example/erewash/erewash/RobotsTxtParserNamesEveryonePinLaw" = some m.cls := findClass_of_methodNamed Bd.named
  have hnm := (name_of_methodNamed Bd.named Bd.method).1
  have X0 : Stand p l e ({ frames := 0, cells := 0, slots := 0, locals := 0 } : Room) s m #[(.int p1)] below meth c s₁ [] 0 0 := Stand.of_body Bd
  have e0 : s₁.heap = h0 := by rw [← hh, Bd.state]; rfl
  have N0 := Fr.nil n0
  have pre0 : ∀ t, Steps p.tables e below (s₁.setTop (mkF m 0 #[.val (.int p1)] [])) t → Steps p.tables e below (s₁.setTop (entryFrame m #[(.int p1)] 1)) t := fun t k => castTop (ef_1 m p1) k
  have pre1 : ∀ t, Steps p.tables e below (s₁.setTop (mkF m 6 #[.val (.int p1)] [(.int (((p1.toUInt32 >>> ((8 : Int32) &&& 31).toUInt32).toInt32) &&& (1 : Int32)))])) t → Steps p.tables e below (s₁.setTop (entryFrame m #[(.int p1)] 1)) t := by
    intro t k
    refine pre0 t ?_
    show Steps p.tables e below (s₁.setTop (mkF m 0 #[.val (.int p1)] [])) _
    refine XS.iloadN X0.here hx rfl (hb hby d1_0) rfl ?_
    show Steps p.tables e below (s₁.setTop (mkF m 1 #[.val (.int p1)] [(.int p1)])) _
    refine XS.bipush X0.here hx rfl (hb hby d1_1) ?_
    show Steps p.tables e below (s₁.setTop (mkF m 3 #[.val (.int p1)] [(.int (8 : Int32)), (.int p1)])) _
    refine XS.iushr X0.here hx rfl (hb hby d1_3) rfl ?_
    show Steps p.tables e below (s₁.setTop (mkF m 4 #[.val (.int p1)] [(.int ((p1.toUInt32 >>> ((8 : Int32) &&& 31).toUInt32).toInt32))])) _
    refine XS.iconst X0.here hx rfl (hb hby d1_4) ?_
    show Steps p.tables e below (s₁.setTop (mkF m 5 #[.val (.int p1)] [(.int (1 : Int32)), (.int ((p1.toUInt32 >>> ((8 : Int32) &&& 31).toUInt32).toInt32))])) _
    refine XS.iand X0.here hx rfl (hb hby d1_5) rfl ?_
    exact k
  by_cases hc6 : (((p1.toUInt32 >>> ((8 : Int32) &&& 31).toUInt32).toInt32) &&& (1 : Int32)) = (0 : Int32)
  · have eq2 : (f1 p1) = (nar .byte (42 : Int32)) := by unfold f1; simp only [if_pos hc6]
    obtain ⟨fs, hr, hrun, hended, hW, hsame⟩ := X0.leave (v := some (.int (nar .byte (42 : Int32)))) (fun h => by rw [Bd.returns] at h; cases h)
    refine ⟨_, _, pre1 _ ?_, hrun, hended, _, _, rfl, ?_, ⟨_, rfl⟩, hW, hsame.mono (by decide) (by decide)⟩
    · show Steps p.tables e below (s₁.setTop (mkF m 6 #[.val (.int p1)] [(.int (((p1.toUInt32 >>> ((8 : Int32) &&& 31).toUInt32).toInt32) &&& (1 : Int32)))])) _
      refine XS.ifNo X0.here hx rfl (hb hby d1_6) rfl ((if0 _ _).trans (teq hc6).2) ?_
      show Steps p.tables e below (s₁.setTop (mkF m 9 #[.val (.int p1)] [])) _
      refine XS.bipush X0.here hx rfl (hb hby d1_9) ?_
      show Steps p.tables e below (s₁.setTop (mkF m 11 #[.val (.int p1)] [(.int (42 : Int32))])) _
      exact retN X0 hx (t := .byte) Bd.returns (by simp) (hb hby d1_11) hr
    · show Q1 Z p1 h0 n0 _ s₁.heap _
      rw [e0]
      exact ⟨by rw [eq2], N0, rfl⟩
  · have eq3 : (f1 p1) = (nar .byte (p1.toInt8.toInt32)) := by unfold f1; simp only [if_neg hc6]
    obtain ⟨fs, hr, hrun, hended, hW, hsame⟩ := X0.leave (v := some (.int (nar .byte (p1.toInt8.toInt32)))) (fun h => by rw [Bd.returns] at h; cases h)
    refine ⟨_, _, pre1 _ ?_, hrun, hended, _, _, rfl, ?_, ⟨_, rfl⟩, hW, hsame.mono (by decide) (by decide)⟩
    · show Steps p.tables e below (s₁.setTop (mkF m 6 #[.val (.int p1)] [(.int (((p1.toUInt32 >>> ((8 : Int32) &&& 31).toUInt32).toInt32) &&& (1 : Int32)))])) _
      refine XS.ifYes X0.here hx rfl (pc0 := 6) (pc' := 12) rfl (hb hby d1_6) rfl ((if0 _ _).trans (feq hc6).2) (by decide) (by decide) ?_
      show Steps p.tables e below (s₁.setTop (mkF m 12 #[.val (.int p1)] [])) _
      refine XS.iloadN X0.here hx rfl (hb hby d1_12) rfl ?_
      show Steps p.tables e below (s₁.setTop (mkF m 13 #[.val (.int p1)] [(.int p1)])) _
      refine XS.i2b X0.here hx rfl (hb hby d1_13) rfl ?_
      show Steps p.tables e below (s₁.setTop (mkF m 14 #[.val (.int p1)] [(.int (p1.toInt8.toInt32))])) _
      exact retN X0 hx (t := .byte) Bd.returns (by simp) (hb hby d1_14) hr
    · show Q1 Z p1 h0 n0 _ s₁.heap _
      rw [e0]
      exact ⟨by rw [eq3], N0, rfl⟩
theorem pn_1 : plainName "com/example/erewash/erewash/RobotsTxtParser" = true := by first | (simp [plainName, overriddenIn]; done) | decide +kernel
theorem d2_0 : decode prog_15_method_11_code 0 = .ok (.iload_n 2, 1) := by decide +kernel
theorem d2_1 : decode prog_15_method_11_code 1 = .ok (.iload_n 1, 1) := by decide +kernel
theorem d2_2 : decode prog_15_method_11_code 2 = .ok (.isub, 1) := by decide +kernel
theorem d2_3 : decode prog_15_method_11_code 3 = .ok (.iconst 1, 1) := by decide +kernel
theorem d2_4 : decode prog_15_method_11_code 4 = .ok (.if_icmp .ne 15, 3) := by decide +kernel
theorem d2_7 : decode prog_15_method_11_code 7 = .ok (.aload_n 0, 1) := by decide +kernel
theorem d2_8 : decode prog_15_method_11_code 8 = .ok (.iload_n 1, 1) := by decide +kernel
theorem d2_9 : decode prog_15_method_11_code 9 = .ok (.baload, 1) := by decide +kernel
theorem d2_10 : decode prog_15_method_11_code 10 = .ok (.bipush 42, 2) := by decide +kernel
theorem d2_12 : decode prog_15_method_11_code 12 = .ok (.if_icmp .ne 7, 3) := by decide +kernel
theorem d2_15 : decode prog_15_method_11_code 15 = .ok (.iconst 1, 1) := by decide +kernel
theorem d2_16 : decode prog_15_method_11_code 16 = .ok (.goto 4, 3) := by decide +kernel
theorem d2_19 : decode prog_15_method_11_code 19 = .ok (.iconst 0, 1) := by decide +kernel
theorem d2_20 : decode prog_15_method_11_code 20 = .ok (.ireturn, 1) := by decide +kernel
theorem ef_2 (m : MethodId) (x0 : Addr) (x1 : Int32) (x2 : Int32) : entryFrame m #[(.ref x0), (.int x1), (.int x2)] 3 = mkF m 0 #[.val (.ref x0), .val (.int x1), .val (.int x2)] [] := by first | (simp [entryFrame, mkF, argsToLocals, Value.category]; done) | rfl
def f2 (p2 : Int32) (p3 : Int32) (z_a1 : Int32) (c_a1 : Nat → Int32) : Int32 := (if (p3 - p2) = (1 : Int32) then (if (c_a1 (p2).toNatClampNeg) = (42 : Int32) then (1 : Int32) else (0 : Int32)) else (0 : Int32))
def Q2 (Z : State) (a1 : Addr) (p2 : Int32) (p3 : Int32) (z_a1 : Int32) (c_a1 : Nat → Int32) (h0 : Heap) (n0 : Nat) (v : Option Value) (h : Heap) (L : List Loc) : Prop := v = some (.int (f2 p2 p3 z_a1 c_a1)) ∧ Fr n0 L ∧ h = h0
set_option maxRecDepth 65536 in
set_option maxHeartbeats 40000000 in
theorem rm2 (l : Launch) (Z : State) (a0 : Array Value) (hw : ∀ d ∈ tables_1, d.before a0 Z = true) (ws : List Jvm.Cond) (a1 : Addr) (p2 : Int32) (p3 : Int32) (z_a1 : Int32) (c_a1 : Nat → Int32) (h0 : Heap) (n0 : Nat) (Z0 : n0 ≤ h0.size) (V_a1 : IAr Z h0 a1 .byte z_a1 c_a1) (hq1 : p3 - p2 = 1 → ¬ p2 < 0 ∧ p2 < z_a1) :
    MetFree l (⟨"com/example/erewash/erewash/RobotsTxtParser", "namesEveryone", "([BII)Z"⟩ : MethodName) (head1 (Jvm.Cond.code (⟨"com/example/erewash/erewash/RobotsTxtParser", "namesEveryone", "([BII)Z"⟩ : MethodName) prog_15_method_11_code 3 (some .boolean) :: ws) ({ frames := 0, cells := 0, slots := 0, locals := 0 } : Room)) (fun a U => a = #[(.ref a1), (.int p2), (.int p3)] ∧ Z.Warmed39 U.vm ∧ U.heap = h0) (fun _ _ _ _ _ => True) (fun _ U o U' => ∃ v L, o = .returned v ∧ Q2 Z a1 p2 p3 z_a1 c_a1 h0 n0 v U'.heap L ∧ FrameEnd U o U' L ({ frames := 0, cells := 0, slots := 0, locals := 0 } : Room).cells ({ frames := 0, cells := 0, slots := 0, locals := 0 } : Room).slots) := by
  refine MetFree.of_bodySF (plainFor_of_name pn_1) hisR ?_
  intro p e s m args below meth c s₁ Bd hml0 hP hK
  obtain ⟨rfl, hZ, hh⟩ := hP
  have hx := Bd.exec
  have hby := Bd.bytes
  have hml : c.maxLocals = 3 := hml0
  have hown : s.vm.findClass "com/example/erewash/erewash/RobotsTxtParser" = some m.cls := findClass_of_methodNamed Bd.named
  have hnm := (name_of_methodNamed Bd.named Bd.method).1
  have X0 : Stand p l e ({ frames := 0, cells := 0, slots := 0, locals := 0 } : Room) s m #[(.ref a1), (.int p2), (.int p3)] below meth c s₁ [] 0 0 := Stand.of_body Bd
  have e0 : s₁.heap = h0 := by rw [← hh, Bd.state]; rfl
  have N0 := Fr.nil n0
  have pre0 : ∀ t, Steps p.tables e below (s₁.setTop (mkF m 0 #[.val (.ref a1), .val (.int p2), .val (.int p3)] [])) t → Steps p.tables e below (s₁.setTop (entryFrame m #[(.ref a1), (.int p2), (.int p3)] 3)) t := fun t k => castTop (ef_2 m a1 p2 p3) k
  have pre1 : ∀ t, Steps p.tables e below (s₁.setTop (mkF m 4 #[.val (.ref a1), .val (.int p2), .val (.int p3)] [(.int (1 : Int32)), (.int (p3 - p2))])) t → Steps p.tables e below (s₁.setTop (entryFrame m #[(.ref a1), (.int p2), (.int p3)] 3)) t := by
    intro t k
    refine pre0 t ?_
    show Steps p.tables e below (s₁.setTop (mkF m 0 #[.val (.ref a1), .val (.int p2), .val (.int p3)] [])) _
    refine XS.iloadN X0.here hx rfl (hb hby d2_0) rfl ?_
    show Steps p.tables e below (s₁.setTop (mkF m 1 #[.val (.ref a1), .val (.int p2), .val (.int p3)] [(.int p3)])) _
    refine XS.iloadN X0.here hx rfl (hb hby d2_1) rfl ?_
    show Steps p.tables e below (s₁.setTop (mkF m 2 #[.val (.ref a1), .val (.int p2), .val (.int p3)] [(.int p2), (.int p3)])) _
    refine XS.isub X0.here hx rfl (hb hby d2_2) rfl ?_
    show Steps p.tables e below (s₁.setTop (mkF m 3 #[.val (.ref a1), .val (.int p2), .val (.int p3)] [(.int (p3 - p2))])) _
    refine XS.iconst X0.here hx rfl (hb hby d2_3) ?_
    exact k
  by_cases hc4 : (p3 - p2) = (1 : Int32)
  · have pre2 : ∀ t, Steps p.tables e below (s₁.setTop (mkF m 12 #[.val (.ref a1), .val (.int p2), .val (.int p3)] [(.int (42 : Int32)), (.int (c_a1 (p2).toNatClampNeg))])) t → Steps p.tables e below (s₁.setTop (entryFrame m #[(.ref a1), (.int p2), (.int p3)] 3)) t := by
      intro t k
      refine pre1 t ?_
      show Steps p.tables e below (s₁.setTop (mkF m 4 #[.val (.ref a1), .val (.int p2), .val (.int p3)] [(.int (1 : Int32)), (.int (p3 - p2))])) _
      refine XS.icmpNo X0.here hx rfl (hb hby d2_4) rfl (teq hc4).2 ?_
      show Steps p.tables e below (s₁.setTop (mkF m 7 #[.val (.ref a1), .val (.int p2), .val (.int p3)] [])) _
      refine XS.aloadN X0.here hx rfl (hb hby d2_7) rfl rfl ?_
      show Steps p.tables e below (s₁.setTop (mkF m 8 #[.val (.ref a1), .val (.int p2), .val (.int p3)] [(.ref a1)])) _
      refine XS.iloadN X0.here hx rfl (hb hby d2_8) rfl ?_
      show Steps p.tables e below (s₁.setTop (mkF m 9 #[.val (.ref a1), .val (.int p2), .val (.int p3)] [(.int p2), (.ref a1)])) _
      refine ldB X0 hx hZ e0 V_a1 (j := p2) (hq1 hc4) (g := (mkF m 9 #[.val (.ref a1), .val (.int p2), .val (.int p3)] [(.int p2), (.ref a1)])) rfl rfl (hb hby d2_9) ?_
      show Steps p.tables e below (s₁.setTop (mkF m 10 #[.val (.ref a1), .val (.int p2), .val (.int p3)] [(.int (c_a1 (p2).toNatClampNeg))])) _
      refine XS.bipush X0.here hx rfl (hb hby d2_10) ?_
      exact k
    by_cases hc12 : (c_a1 (p2).toNatClampNeg) = (42 : Int32)
    · have eq3 : (f2 p2 p3 z_a1 c_a1) = (1 : Int32) := by unfold f2; simp only [if_pos hc4, if_pos hc12]
      obtain ⟨fs, hr, hrun, hended, hW, hsame⟩ := X0.leave (v := some (.int (1 : Int32))) (fun h => by rw [Bd.returns] at h; cases h)
      refine ⟨_, _, pre2 _ ?_, hrun, hended, _, _, rfl, ?_, ⟨_, rfl⟩, hW, hsame.mono (by decide) (by decide)⟩
      · show Steps p.tables e below (s₁.setTop (mkF m 12 #[.val (.ref a1), .val (.int p2), .val (.int p3)] [(.int (42 : Int32)), (.int (c_a1 (p2).toNatClampNeg))])) _
        refine XS.icmpNo X0.here hx rfl (hb hby d2_12) rfl (teq hc12).2 ?_
        show Steps p.tables e below (s₁.setTop (mkF m 15 #[.val (.ref a1), .val (.int p2), .val (.int p3)] [])) _
        refine XS.iconst X0.here hx rfl (hb hby d2_15) ?_
        show Steps p.tables e below (s₁.setTop (mkF m 16 #[.val (.ref a1), .val (.int p2), .val (.int p3)] [(.int (1 : Int32))])) _
        refine XS.goto X0.here hx rfl (pc0 := 16) (pc' := 20) rfl (hb hby d2_16) (by decide) (by decide) ?_
        show Steps p.tables e below (s₁.setTop (mkF m 20 #[.val (.ref a1), .val (.int p2), .val (.int p3)] [(.int (1 : Int32))])) _
        exact retN X0 hx (t := .boolean) Bd.returns (by simp) (hb hby d2_20) hr
      · show Q2 Z a1 p2 p3 z_a1 c_a1 h0 n0 _ s₁.heap _
        rw [e0]
        exact ⟨by rw [eq3], N0, rfl⟩
    · have eq4 : (f2 p2 p3 z_a1 c_a1) = (0 : Int32) := by unfold f2; simp only [if_pos hc4, if_neg hc12]
      obtain ⟨fs, hr, hrun, hended, hW, hsame⟩ := X0.leave (v := some (.int (0 : Int32))) (fun h => by rw [Bd.returns] at h; cases h)
      refine ⟨_, _, pre2 _ ?_, hrun, hended, _, _, rfl, ?_, ⟨_, rfl⟩, hW, hsame.mono (by decide) (by decide)⟩
      · show Steps p.tables e below (s₁.setTop (mkF m 12 #[.val (.ref a1), .val (.int p2), .val (.int p3)] [(.int (42 : Int32)), (.int (c_a1 (p2).toNatClampNeg))])) _
        refine XS.icmpYes X0.here hx rfl (pc0 := 12) (pc' := 19) rfl (hb hby d2_12) rfl (feq hc12).2 (by decide) (by decide) ?_
        show Steps p.tables e below (s₁.setTop (mkF m 19 #[.val (.ref a1), .val (.int p2), .val (.int p3)] [])) _
        refine XS.iconst X0.here hx rfl (hb hby d2_19) ?_
        show Steps p.tables e below (s₁.setTop (mkF m 20 #[.val (.ref a1), .val (.int p2), .val (.int p3)] [(.int (0 : Int32))])) _
        exact retN X0 hx (t := .boolean) Bd.returns (by simp) (hb hby d2_20) hr
      · show Q2 Z a1 p2 p3 z_a1 c_a1 h0 n0 _ s₁.heap _
        rw [e0]
        exact ⟨by rw [eq4], N0, rfl⟩
  · have eq5 : (f2 p2 p3 z_a1 c_a1) = (0 : Int32) := by unfold f2; simp only [if_neg hc4]
    obtain ⟨fs, hr, hrun, hended, hW, hsame⟩ := X0.leave (v := some (.int (0 : Int32))) (fun h => by rw [Bd.returns] at h; cases h)
    refine ⟨_, _, pre1 _ ?_, hrun, hended, _, _, rfl, ?_, ⟨_, rfl⟩, hW, hsame.mono (by decide) (by decide)⟩
    · show Steps p.tables e below (s₁.setTop (mkF m 4 #[.val (.ref a1), .val (.int p2), .val (.int p3)] [(.int (1 : Int32)), (.int (p3 - p2))])) _
      refine XS.icmpYes X0.here hx rfl (pc0 := 4) (pc' := 19) rfl (hb hby d2_4) rfl (feq hc4).2 (by decide) (by decide) ?_
      show Steps p.tables e below (s₁.setTop (mkF m 19 #[.val (.ref a1), .val (.int p2), .val (.int p3)] [])) _
      refine XS.iconst X0.here hx rfl (hb hby d2_19) ?_
      show Steps p.tables e below (s₁.setTop (mkF m 20 #[.val (.ref a1), .val (.int p2), .val (.int p3)] [(.int (0 : Int32))])) _
      exact retN X0 hx (t := .boolean) Bd.returns (by simp) (hb hby d2_20) hr
    · show Q2 Z a1 p2 p3 z_a1 c_a1 h0 n0 _ s₁.heap _
      rw [e0]
      exact ⟨by rw [eq5], N0, rfl⟩
theorem pd_0 : parseMethodDescriptor "(I)B" = some ⟨[.int], some .byte⟩ := by decide +kernel
theorem pd_1 : parseMethodDescriptor "([BII)Z" = some ⟨[(.array .byte), .int, .int], some .boolean⟩ := by decide +kernel
theorem ef_0 (m : MethodId) (x0 : Int32) (x1 : Int32) (x2 : Int32) (x3 : Int32) (x4 : Int32) : entryFrame m #[(.int x0), (.int x1), (.int x2), (.int x3), (.int x4)] maxLocals = mkF m 0 #[.val (.int x0), .val (.int x1), .val (.int x2), .val (.int x3), .val (.int x4), .unset, .unset, .unset, .unset, .unset, .unset] [] := by first | (simp [entryFrame, mkF, argsToLocals, Value.category, maxLocals]; done) | rfl
def f0_v12 (p1 : Int32) (p2 : Int32) (p3 : Int32) (p4 : Int32) (p5 : Int32) : Nat → Int32 := (ownU (fun _ => 0) ((0 : Int32)).toNatClampNeg (nar .byte (f1 p1)))
def f0_v20 (p1 : Int32) (p2 : Int32) (p3 : Int32) (p4 : Int32) (p5 : Int32) : Nat → Int32 := (ownU (f0_v12 p1 p2 p3 p4 p5) ((1 : Int32)).toNatClampNeg (nar .byte (f1 p2)))
def f0_v28 (p1 : Int32) (p2 : Int32) (p3 : Int32) (p4 : Int32) (p5 : Int32) : Nat → Int32 := (ownU (f0_v20 p1 p2 p3 p4 p5) ((2 : Int32)).toNatClampNeg (nar .byte (f1 p3)))
def f0_v36 (p1 : Int32) (p2 : Int32) (p3 : Int32) (p4 : Int32) (p5 : Int32) : Nat → Int32 := (ownU (f0_v28 p1 p2 p3 p4 p5) ((3 : Int32)).toNatClampNeg (nar .byte (f1 p4)))
def f0_v43 (p1 : Int32) (p2 : Int32) (p3 : Int32) (p4 : Int32) (p5 : Int32) : Int32 := ((p5 &&& (2147483647 : Int32)) - ((p5 &&& (2147483647 : Int32)) / (5 : Int32)) * (5 : Int32))
def f0_v58 (p1 : Int32) (p2 : Int32) (p3 : Int32) (p4 : Int32) (p5 : Int32) : Int32 := ((((p5.toUInt32 >>> ((8 : Int32) &&& 31).toUInt32).toInt32) &&& (7 : Int32)) - ((((p5.toUInt32 >>> ((8 : Int32) &&& 31).toUInt32).toInt32) &&& (7 : Int32)) / ((5 : Int32) - (f0_v43 p1 p2 p3 p4 p5))) * ((5 : Int32) - (f0_v43 p1 p2 p3 p4 p5)))
def f0_v125 (p1 : Int32) (p2 : Int32) (p3 : Int32) (p4 : Int32) (p5 : Int32) : Int32 := (f2 (f0_v43 p1 p2 p3 p4 p5) ((f0_v43 p1 p2 p3 p4 p5) + (f0_v58 p1 p2 p3 p4 p5)) (4 : Int32) (f0_v36 p1 p2 p3 p4 p5))
def f0_s0_114 (p1 : Int32) (p2 : Int32) (p3 : Int32) (p4 : Int32) (p5 : Int32) : Int32 := (if (((f0_v36 p1 p2 p3 p4 p5) ((f0_v43 p1 p2 p3 p4 p5)).toNatClampNeg) &&& (255 : Int32)) = (42 : Int32) then (1 : Int32) else (0 : Int32))
theorem own_st (a b c d x : Int32) : 0 ≤ (f0_v43 a b c d x).toInt ∧ (f0_v43 a b c d x).toInt < 5 := by
  unfold f0_v43
  rw [own_rem]
  have h := c_mask x 2147483647 31 (by decide) (by decide)
  have h2 := (c_irem (x &&& 2147483647) 5 5 rfl).1 (by rw [h]; omega)
  omega
theorem own_five (a b c d x : Int32) : ((5 : Int32) - f0_v43 a b c d x).toInt = 5 - (f0_v43 a b c d x).toInt := by
  have h1 := own_st a b c d x
  have h2 := c_isub 5 (f0_v43 a b c d x)
  have h3 := rng32 ((5 : Int32) - f0_v43 a b c d x)
  have e5 : (5 : Int32).toInt = 5 := rfl
  omega
theorem own_nz (a b c d x : Int32) : (5 : Int32) - f0_v43 a b c d x ≠ 0 := fun q => by
  have h1 := own_st a b c d x
  have h2 := own_five a b c d x
  rw [q] at h2
  have e0 : (0 : Int32).toInt = 0 := rfl
  omega
theorem own_len (a b c d x : Int32) : 0 ≤ (f0_v58 a b c d x).toInt ∧ (f0_v58 a b c d x).toInt < 5 - (f0_v43 a b c d x).toInt := by
  have h1 := own_st a b c d x
  have h2 := own_five a b c d x
  unfold f0_v58
  rw [own_rem]
  generalize (x.toUInt32 >>> ((8 : Int32) &&& 31).toUInt32).toInt32 = y
  have h3 := c_mask y 7 3 (by decide) (by decide)
  have h4 := (c_iremV (y &&& 7) (5 - f0_v43 a b c d x)).1 (by omega) (by omega)
  omega
theorem own_inb (a b c d x : Int32) (h0 : ¬ f0_v58 a b c d x = 0) (h2 : f0_v58 a b c d x < 2) : ¬ f0_v43 a b c d x < 0 ∧ f0_v43 a b c d x < 4 := by
  have h3 := own_st a b c d x
  have h4 := own_len a b c d x
  rw [← Int32.toInt_inj] at h0
  simp only [Int32.lt_iff_toInt_lt] at h2 ⊢
  have e0 : (0 : Int32).toInt = 0 := rfl
  have e2 : (2 : Int32).toInt = 2 := rfl
  have e4 : (4 : Int32).toInt = 4 := rfl
  omega
theorem own_dif (a b c d x : Int32) : ((f0_v43 a b c d x + f0_v58 a b c d x) - f0_v43 a b c d x) = f0_v58 a b c d x := by
  have h3 := own_st a b c d x
  have h4 := own_len a b c d x
  have h5 := c_iadd (f0_v43 a b c d x) (f0_v58 a b c d x)
  have h6 := c_isub (f0_v43 a b c d x + f0_v58 a b c d x) (f0_v43 a b c d x)
  have r1 := rng32 (f0_v43 a b c d x + f0_v58 a b c d x)
  have r2 := rng32 ((f0_v43 a b c d x + f0_v58 a b c d x) - f0_v43 a b c d x)
  apply Int32.toInt_inj.mp
  omega
theorem own_prem (a b c d x : Int32) : (f0_v43 a b c d x + f0_v58 a b c d x) - f0_v43 a b c d x = 1 → ¬ f0_v43 a b c d x < 0 ∧ f0_v43 a b c d x < 4 := by
  rw [own_dif]
  intro q
  exact own_inb a b c d x (by rw [q]; decide) (by rw [q]; decide)
def f0 (p1 : Int32) (p2 : Int32) (p3 : Int32) (p4 : Int32) (p5 : Int32) : Int32 := (if (f0_v58 p1 p2 p3 p4 p5) = (0 : Int32) then (if (f0_v125 p1 p2 p3 p4 p5) = (0 : Int32) then (1 : Int32) else (0 : Int32)) else (if (f0_v58 p1 p2 p3 p4 p5) < (2 : Int32) then (if (f0_v125 p1 p2 p3 p4 p5) = (f0_s0_114 p1 p2 p3 p4 p5) then (1 : Int32) else (0 : Int32)) else (if (f0_v125 p1 p2 p3 p4 p5) = (0 : Int32) then (1 : Int32) else (0 : Int32))))
def Q0 (Z : State) (p1 : Int32) (p2 : Int32) (p3 : Int32) (p4 : Int32) (p5 : Int32) (h0 : Heap) (n0 : Nat) (v : Option Value) (h : Heap) (L : List Loc) : Prop := v = some (.int (f0 p1 p2 p3 p4 p5)) ∧ Fr n0 L ∧ True
set_option maxRecDepth 65536 in
set_option maxHeartbeats 40000000 in
theorem rm0 (l : Launch) (Z : State) (a0 : Array Value) (hw : ∀ d ∈ tables_1, d.before a0 Z = true) (ws : List Jvm.Cond) (p1 : Int32) (p2 : Int32) (p3 : Int32) (p4 : Int32) (p5 : Int32) (h0 : Heap) (n0 : Nat) (Z0 : n0 ≤ h0.size) :
    MetFree l x (head1 (Jvm.Cond.code x code maxLocals ret :: ws) room_1) (fun a U => a = #[(.int p1), (.int p2), (.int p3), (.int p4), (.int p5)] ∧ Z.Warmed39 U.vm ∧ U.heap = h0) (fun _ _ _ _ _ => True) (fun _ U o U' => ∃ v L, o = .returned v ∧ Q0 Z p1 p2 p3 p4 p5 h0 n0 v U'.heap L ∧ FrameEnd U o U' L room_1.cells room_1.slots) := by
  refine MetFree.of_bodySF (plainFor_of_name pn_0) hisR ?_
  intro p e s m args below meth c s₁ Bd hml0 hP hK
  obtain ⟨rfl, hZ, hh⟩ := hP
  have hx := Bd.exec
  have hby := Bd.bytes
  have hml : c.maxLocals = 11 := hml0
  have hown : s.vm.findClass "com/example/erewash/erewash/RobotsTxtParserNamesEveryonePinLaw" = some m.cls := findClass_of_methodNamed Bd.named
  have hnm := (name_of_methodNamed Bd.named Bd.method).1
  have X0 : Stand p l e room_1 s m #[(.int p1), (.int p2), (.int p3), (.int p4), (.int p5)] below meth c s₁ [] 0 0 := Stand.of_body Bd
  have e0 : s₁.heap = h0 := by rw [← hh, Bd.state]; rfl
  have N0 := Fr.nil n0
  have pre0 : ∀ t, Steps p.tables e below (s₁.setTop (mkF m 0 #[.val (.int p1), .val (.int p2), .val (.int p3), .val (.int p4), .val (.int p5), .unset, .unset, .unset, .unset, .unset, .unset] [])) t → Steps p.tables e below (s₁.setTop (entryFrame m #[(.int p1), (.int p2), (.int p3), (.int p4), (.int p5)] maxLocals)) t := fun t k => castTop (ef_0 m p1 p2 p3 p4 p5) k
  obtain ⟨T6, h6, k6, X6, e6, E6, A6, st6⟩ := newP X0 hx hZ (hw _ (List.mem_of_getElem? (i := 0) rfl)) e0 (g := (mkF m 1 #[.val (.int p1), .val (.int p2), .val (.int p3), .val (.int p4), .val (.int p5), .unset, .unset, .unset, .unset, .unset, .unset] [(.int (4 : Int32))])) rfl (hb hby at_1) rfl (by decide) (cap := 4) (by decide) (by decide) (by decide) (by decide)
  obtain ⟨b6, g6⟩ : ∃ z, z = h0.size := ⟨_, rfl⟩
  rw [← g6] at A6 st6
  have g_b6 : n0 ≤ b6 := Nat.le_trans Z0 (Nat.le_of_eq g6.symm)
  have c7 : n0 ≤ h6.size := Nat.le_trans Z0 E6.1
  have c8 : IAr Z h6 b6 .byte (4 : Int32) (fun _ => 0) := IAr.new A6 (by decide) rfl
  obtain ⟨_, _, ⟨T9, L9, k9, n9⟩, -, X9, ⟨Lc9, hQ9, l9, y9, z9⟩, st9⟩ := Jvm.LawKit.callS X6 hx (y := (⟨"com/example/erewash/erewash/RobotsTxtParserNamesEveryonePinLaw", "draw", "(I)B"⟩ : MethodName)) hown (mvT hZ (hw _ (List.mem_of_getElem? (i := 1) rfl))) (mvT hZ (hw _ (List.mem_of_getElem? (i := 2) rfl))) (mvT hZ (hw _ (List.mem_of_getElem? (i := 3) rfl))) (mvT hZ (hw _ (List.mem_of_getElem? (i := 4) rfl))) (by decide) (backOf (W := 2) (rm1 l Z a0 hw [] p1 h6 n0 c7 ) hZ (hw _ (List.mem_of_getElem? (i := 4) rfl)) (hw _ (List.mem_of_getElem? (i := 3) rfl)) (by decide) (by decide)) (g := (mkF m 9 #[.val (.int p1), .val (.int p2), .val (.int p3), .val (.int p4), .val (.int p5), .val (.ref b6), .unset, .unset, .unset, .unset, .unset] [(.int p1), (.int (0 : Int32)), (.ref b6)])) rfl (by rw [hml]; rfl) (argsL := [(.int p1)]) (rest := [(.int (0 : Int32)), (.ref b6)]) (lenOf pd_0 rfl) rfl (by show 2 * 0 + _ ≤ _; exact Nat.le_of_eq rfl) (hb hby at_9) (fun _ _ => ⟨rfl, e6, (by decide : 1 + 0 ≤ _), (by decide : 4 + 0 ≤ _)⟩)
  dsimp only [Pt.U, Pt.locs, Pt.cells, Pt.slots] at X9 l9 y9 z9 st9 hQ9
  subst l9 y9 z9
  obtain ⟨rfl, N9q, e9⟩ := hQ9
  have N9 := Fr.app N0 N9q
  obtain ⟨T10, h10, X10, e10, W10, V10, st10⟩ := sB X9 hx hZ e9 c8 (j := (0 : Int32)) ⟨by decide, by first | decide | assumption⟩ (g := (mkF m 12 #[.val (.int p1), .val (.int p2), .val (.int p3), .val (.int p4), .val (.int p5), .val (.ref b6), .unset, .unset, .unset, .unset, .unset] [(.int (f1 p1)), (.int (0 : Int32)), (.ref b6)])) rfl rfl (hb hby at_12)
  have N10 := Fr.snoc X10 N9 g_b6
  have c11 : n0 ≤ h10.size := Nat.le_trans c7 (Keep.of_wr W10).1
  have c12 : IAr Z h10 b6 .byte (4 : Int32) (f0_v12 p1 p2 p3 p4 p5) := V10
  obtain ⟨_, _, ⟨T13, L13, k13, n13⟩, -, X13, ⟨Lc13, hQ13, l13, y13, z13⟩, st13⟩ := Jvm.LawKit.callS X10 hx (y := (⟨"com/example/erewash/erewash/RobotsTxtParserNamesEveryonePinLaw", "draw", "(I)B"⟩ : MethodName)) hown (mvT hZ (hw _ (List.mem_of_getElem? (i := 1) rfl))) (mvT hZ (hw _ (List.mem_of_getElem? (i := 2) rfl))) (mvT hZ (hw _ (List.mem_of_getElem? (i := 3) rfl))) (mvT hZ (hw _ (List.mem_of_getElem? (i := 4) rfl))) (by decide) (backOf (W := 2) (rm1 l Z a0 hw [] p2 h10 n0 c11 ) hZ (hw _ (List.mem_of_getElem? (i := 4) rfl)) (hw _ (List.mem_of_getElem? (i := 3) rfl)) (by decide) (by decide)) (g := (mkF m 17 #[.val (.int p1), .val (.int p2), .val (.int p3), .val (.int p4), .val (.int p5), .val (.ref b6), .unset, .unset, .unset, .unset, .unset] [(.int p2), (.int (1 : Int32)), (.ref b6)])) rfl (by rw [hml]; rfl) (argsL := [(.int p2)]) (rest := [(.int (1 : Int32)), (.ref b6)]) (lenOf pd_0 rfl) rfl (by show 2 * 0 + _ ≤ _; exact Nat.le_of_eq rfl) (hb hby at_17) (fun _ _ => ⟨rfl, e10, (by decide : 1 + 0 ≤ _), (by decide : 4 + 0 ≤ _)⟩)
  dsimp only [Pt.U, Pt.locs, Pt.cells, Pt.slots] at X13 l13 y13 z13 st13 hQ13
  subst l13 y13 z13
  obtain ⟨rfl, N13q, e13⟩ := hQ13
  have N13 := Fr.app N10 N13q
  obtain ⟨T14, h14, X14, e14, W14, V14, st14⟩ := sB X13 hx hZ e13 c12 (j := (1 : Int32)) ⟨by decide, by first | decide | assumption⟩ (g := (mkF m 20 #[.val (.int p1), .val (.int p2), .val (.int p3), .val (.int p4), .val (.int p5), .val (.ref b6), .unset, .unset, .unset, .unset, .unset] [(.int (f1 p2)), (.int (1 : Int32)), (.ref b6)])) rfl rfl (hb hby at_20)
  have N14 := Fr.snoc X14 N13 g_b6
  have c15 : n0 ≤ h14.size := Nat.le_trans c11 (Keep.of_wr W14).1
  have c16 : IAr Z h14 b6 .byte (4 : Int32) (f0_v20 p1 p2 p3 p4 p5) := V14
  obtain ⟨_, _, ⟨T17, L17, k17, n17⟩, -, X17, ⟨Lc17, hQ17, l17, y17, z17⟩, st17⟩ := Jvm.LawKit.callS X14 hx (y := (⟨"com/example/erewash/erewash/RobotsTxtParserNamesEveryonePinLaw", "draw", "(I)B"⟩ : MethodName)) hown (mvT hZ (hw _ (List.mem_of_getElem? (i := 1) rfl))) (mvT hZ (hw _ (List.mem_of_getElem? (i := 2) rfl))) (mvT hZ (hw _ (List.mem_of_getElem? (i := 3) rfl))) (mvT hZ (hw _ (List.mem_of_getElem? (i := 4) rfl))) (by decide) (backOf (W := 2) (rm1 l Z a0 hw [] p3 h14 n0 c15 ) hZ (hw _ (List.mem_of_getElem? (i := 4) rfl)) (hw _ (List.mem_of_getElem? (i := 3) rfl)) (by decide) (by decide)) (g := (mkF m 25 #[.val (.int p1), .val (.int p2), .val (.int p3), .val (.int p4), .val (.int p5), .val (.ref b6), .unset, .unset, .unset, .unset, .unset] [(.int p3), (.int (2 : Int32)), (.ref b6)])) rfl (by rw [hml]; rfl) (argsL := [(.int p3)]) (rest := [(.int (2 : Int32)), (.ref b6)]) (lenOf pd_0 rfl) rfl (by show 2 * 0 + _ ≤ _; exact Nat.le_of_eq rfl) (hb hby at_25) (fun _ _ => ⟨rfl, e14, (by decide : 1 + 0 ≤ _), (by decide : 4 + 0 ≤ _)⟩)
  dsimp only [Pt.U, Pt.locs, Pt.cells, Pt.slots] at X17 l17 y17 z17 st17 hQ17
  subst l17 y17 z17
  obtain ⟨rfl, N17q, e17⟩ := hQ17
  have N17 := Fr.app N14 N17q
  obtain ⟨T18, h18, X18, e18, W18, V18, st18⟩ := sB X17 hx hZ e17 c16 (j := (2 : Int32)) ⟨by decide, by first | decide | assumption⟩ (g := (mkF m 28 #[.val (.int p1), .val (.int p2), .val (.int p3), .val (.int p4), .val (.int p5), .val (.ref b6), .unset, .unset, .unset, .unset, .unset] [(.int (f1 p3)), (.int (2 : Int32)), (.ref b6)])) rfl rfl (hb hby at_28)
  have N18 := Fr.snoc X18 N17 g_b6
  have c19 : n0 ≤ h18.size := Nat.le_trans c15 (Keep.of_wr W18).1
  have c20 : IAr Z h18 b6 .byte (4 : Int32) (f0_v28 p1 p2 p3 p4 p5) := V18
  obtain ⟨_, _, ⟨T21, L21, k21, n21⟩, -, X21, ⟨Lc21, hQ21, l21, y21, z21⟩, st21⟩ := Jvm.LawKit.callS X18 hx (y := (⟨"com/example/erewash/erewash/RobotsTxtParserNamesEveryonePinLaw", "draw", "(I)B"⟩ : MethodName)) hown (mvT hZ (hw _ (List.mem_of_getElem? (i := 1) rfl))) (mvT hZ (hw _ (List.mem_of_getElem? (i := 2) rfl))) (mvT hZ (hw _ (List.mem_of_getElem? (i := 3) rfl))) (mvT hZ (hw _ (List.mem_of_getElem? (i := 4) rfl))) (by decide) (backOf (W := 2) (rm1 l Z a0 hw [] p4 h18 n0 c19 ) hZ (hw _ (List.mem_of_getElem? (i := 4) rfl)) (hw _ (List.mem_of_getElem? (i := 3) rfl)) (by decide) (by decide)) (g := (mkF m 33 #[.val (.int p1), .val (.int p2), .val (.int p3), .val (.int p4), .val (.int p5), .val (.ref b6), .unset, .unset, .unset, .unset, .unset] [(.int p4), (.int (3 : Int32)), (.ref b6)])) rfl (by rw [hml]; rfl) (argsL := [(.int p4)]) (rest := [(.int (3 : Int32)), (.ref b6)]) (lenOf pd_0 rfl) rfl (by show 2 * 0 + _ ≤ _; exact Nat.le_of_eq rfl) (hb hby at_33) (fun _ _ => ⟨rfl, e18, (by decide : 1 + 0 ≤ _), (by decide : 4 + 0 ≤ _)⟩)
  dsimp only [Pt.U, Pt.locs, Pt.cells, Pt.slots] at X21 l21 y21 z21 st21 hQ21
  subst l21 y21 z21
  obtain ⟨rfl, N21q, e21⟩ := hQ21
  have N21 := Fr.app N18 N21q
  obtain ⟨T22, h22, X22, e22, W22, V22, st22⟩ := sB X21 hx hZ e21 c20 (j := (3 : Int32)) ⟨by decide, by first | decide | assumption⟩ (g := (mkF m 36 #[.val (.int p1), .val (.int p2), .val (.int p3), .val (.int p4), .val (.int p5), .val (.ref b6), .unset, .unset, .unset, .unset, .unset] [(.int (f1 p4)), (.int (3 : Int32)), (.ref b6)])) rfl rfl (hb hby at_36)
  have N22 := Fr.snoc X22 N21 g_b6
  have c23 : n0 ≤ h22.size := Nat.le_trans c19 (Keep.of_wr W22).1
  have c24 : IAr Z h22 b6 .byte (4 : Int32) (f0_v36 p1 p2 p3 p4 p5) := V22
  have pre1 : ∀ t, Steps p.tables e below (T22.setTop (mkF m 70 #[.val (.int p1), .val (.int p2), .val (.int p3), .val (.int p4), .val (.int p5), .val (.ref b6), .val (.int (f0_v43 p1 p2 p3 p4 p5)), .val (.int (f0_v58 p1 p2 p3 p4 p5)), .val (.int ((f0_v43 p1 p2 p3 p4 p5) + (f0_v58 p1 p2 p3 p4 p5))), .unset, .unset] [(.int (f0_v58 p1 p2 p3 p4 p5))])) t → Steps p.tables e below (s₁.setTop (entryFrame m #[(.int p1), (.int p2), (.int p3), (.int p4), (.int p5)] maxLocals)) t := by
    intro t k
    refine pre0 t ?_
    show Steps p.tables e below (s₁.setTop (mkF m 0 #[.val (.int p1), .val (.int p2), .val (.int p3), .val (.int p4), .val (.int p5), .unset, .unset, .unset, .unset, .unset, .unset] [])) _
    refine XS.iconst X0.here hx rfl (hb hby at_0) ?_
    show Steps p.tables e below (s₁.setTop (mkF m 1 #[.val (.int p1), .val (.int p2), .val (.int p3), .val (.int p4), .val (.int p5), .unset, .unset, .unset, .unset, .unset, .unset] [(.int (4 : Int32))])) _
    refine st6 _ ?_
    show Steps p.tables e below (T6.setTop (mkF m 3 #[.val (.int p1), .val (.int p2), .val (.int p3), .val (.int p4), .val (.int p5), .unset, .unset, .unset, .unset, .unset, .unset] [(.ref b6)])) _
    refine XS.astore X6.here hx rfl (hb hby at_3) rfl rfl (l' := #[.val (.int p1), .val (.int p2), .val (.int p3), .val (.int p4), .val (.int p5), .val (.ref b6), .unset, .unset, .unset, .unset, .unset]) rfl ?_
    show Steps p.tables e below (T6.setTop (mkF m 5 #[.val (.int p1), .val (.int p2), .val (.int p3), .val (.int p4), .val (.int p5), .val (.ref b6), .unset, .unset, .unset, .unset, .unset] [])) _
    refine XS.aload X6.here hx rfl (hb hby at_5) rfl rfl ?_
    show Steps p.tables e below (T6.setTop (mkF m 7 #[.val (.int p1), .val (.int p2), .val (.int p3), .val (.int p4), .val (.int p5), .val (.ref b6), .unset, .unset, .unset, .unset, .unset] [(.ref b6)])) _
    refine XS.iconst X6.here hx rfl (hb hby at_7) ?_
    show Steps p.tables e below (T6.setTop (mkF m 8 #[.val (.int p1), .val (.int p2), .val (.int p3), .val (.int p4), .val (.int p5), .val (.ref b6), .unset, .unset, .unset, .unset, .unset] [(.int (0 : Int32)), (.ref b6)])) _
    refine XS.iloadN X6.here hx rfl (hb hby at_8) rfl ?_
    show Steps p.tables e below (T6.setTop (mkF m 9 #[.val (.int p1), .val (.int p2), .val (.int p3), .val (.int p4), .val (.int p5), .val (.ref b6), .unset, .unset, .unset, .unset, .unset] [(.int p1), (.int (0 : Int32)), (.ref b6)])) _
    refine st9 _ ?_
    show Steps p.tables e below (T9.setTop (mkF m 12 #[.val (.int p1), .val (.int p2), .val (.int p3), .val (.int p4), .val (.int p5), .val (.ref b6), .unset, .unset, .unset, .unset, .unset] [(.int (f1 p1)), (.int (0 : Int32)), (.ref b6)])) _
    refine st10 _ ?_
    show Steps p.tables e below (T10.setTop (mkF m 13 #[.val (.int p1), .val (.int p2), .val (.int p3), .val (.int p4), .val (.int p5), .val (.ref b6), .unset, .unset, .unset, .unset, .unset] [])) _
    refine XS.aload X10.here hx rfl (hb hby at_13) rfl rfl ?_
    show Steps p.tables e below (T10.setTop (mkF m 15 #[.val (.int p1), .val (.int p2), .val (.int p3), .val (.int p4), .val (.int p5), .val (.ref b6), .unset, .unset, .unset, .unset, .unset] [(.ref b6)])) _
    refine XS.iconst X10.here hx rfl (hb hby at_15) ?_
    show Steps p.tables e below (T10.setTop (mkF m 16 #[.val (.int p1), .val (.int p2), .val (.int p3), .val (.int p4), .val (.int p5), .val (.ref b6), .unset, .unset, .unset, .unset, .unset] [(.int (1 : Int32)), (.ref b6)])) _
    refine XS.iloadN X10.here hx rfl (hb hby at_16) rfl ?_
    show Steps p.tables e below (T10.setTop (mkF m 17 #[.val (.int p1), .val (.int p2), .val (.int p3), .val (.int p4), .val (.int p5), .val (.ref b6), .unset, .unset, .unset, .unset, .unset] [(.int p2), (.int (1 : Int32)), (.ref b6)])) _
    refine st13 _ ?_
    show Steps p.tables e below (T13.setTop (mkF m 20 #[.val (.int p1), .val (.int p2), .val (.int p3), .val (.int p4), .val (.int p5), .val (.ref b6), .unset, .unset, .unset, .unset, .unset] [(.int (f1 p2)), (.int (1 : Int32)), (.ref b6)])) _
    refine st14 _ ?_
    show Steps p.tables e below (T14.setTop (mkF m 21 #[.val (.int p1), .val (.int p2), .val (.int p3), .val (.int p4), .val (.int p5), .val (.ref b6), .unset, .unset, .unset, .unset, .unset] [])) _
    refine XS.aload X14.here hx rfl (hb hby at_21) rfl rfl ?_
    show Steps p.tables e below (T14.setTop (mkF m 23 #[.val (.int p1), .val (.int p2), .val (.int p3), .val (.int p4), .val (.int p5), .val (.ref b6), .unset, .unset, .unset, .unset, .unset] [(.ref b6)])) _
    refine XS.iconst X14.here hx rfl (hb hby at_23) ?_
    show Steps p.tables e below (T14.setTop (mkF m 24 #[.val (.int p1), .val (.int p2), .val (.int p3), .val (.int p4), .val (.int p5), .val (.ref b6), .unset, .unset, .unset, .unset, .unset] [(.int (2 : Int32)), (.ref b6)])) _
    refine XS.iloadN X14.here hx rfl (hb hby at_24) rfl ?_
    show Steps p.tables e below (T14.setTop (mkF m 25 #[.val (.int p1), .val (.int p2), .val (.int p3), .val (.int p4), .val (.int p5), .val (.ref b6), .unset, .unset, .unset, .unset, .unset] [(.int p3), (.int (2 : Int32)), (.ref b6)])) _
    refine st17 _ ?_
    show Steps p.tables e below (T17.setTop (mkF m 28 #[.val (.int p1), .val (.int p2), .val (.int p3), .val (.int p4), .val (.int p5), .val (.ref b6), .unset, .unset, .unset, .unset, .unset] [(.int (f1 p3)), (.int (2 : Int32)), (.ref b6)])) _
    refine st18 _ ?_
    show Steps p.tables e below (T18.setTop (mkF m 29 #[.val (.int p1), .val (.int p2), .val (.int p3), .val (.int p4), .val (.int p5), .val (.ref b6), .unset, .unset, .unset, .unset, .unset] [])) _
    refine XS.aload X18.here hx rfl (hb hby at_29) rfl rfl ?_
    show Steps p.tables e below (T18.setTop (mkF m 31 #[.val (.int p1), .val (.int p2), .val (.int p3), .val (.int p4), .val (.int p5), .val (.ref b6), .unset, .unset, .unset, .unset, .unset] [(.ref b6)])) _
    refine XS.iconst X18.here hx rfl (hb hby at_31) ?_
    show Steps p.tables e below (T18.setTop (mkF m 32 #[.val (.int p1), .val (.int p2), .val (.int p3), .val (.int p4), .val (.int p5), .val (.ref b6), .unset, .unset, .unset, .unset, .unset] [(.int (3 : Int32)), (.ref b6)])) _
    refine XS.iloadN X18.here hx rfl (hb hby at_32) rfl ?_
    show Steps p.tables e below (T18.setTop (mkF m 33 #[.val (.int p1), .val (.int p2), .val (.int p3), .val (.int p4), .val (.int p5), .val (.ref b6), .unset, .unset, .unset, .unset, .unset] [(.int p4), (.int (3 : Int32)), (.ref b6)])) _
    refine st21 _ ?_
    show Steps p.tables e below (T21.setTop (mkF m 36 #[.val (.int p1), .val (.int p2), .val (.int p3), .val (.int p4), .val (.int p5), .val (.ref b6), .unset, .unset, .unset, .unset, .unset] [(.int (f1 p4)), (.int (3 : Int32)), (.ref b6)])) _
    refine st22 _ ?_
    show Steps p.tables e below (T22.setTop (mkF m 37 #[.val (.int p1), .val (.int p2), .val (.int p3), .val (.int p4), .val (.int p5), .val (.ref b6), .unset, .unset, .unset, .unset, .unset] [])) _
    refine XS.iload X22.here hx rfl (hb hby at_37) rfl ?_
    show Steps p.tables e below (T22.setTop (mkF m 39 #[.val (.int p1), .val (.int p2), .val (.int p3), .val (.int p4), .val (.int p5), .val (.ref b6), .unset, .unset, .unset, .unset, .unset] [(.int p5)])) _
    refine X22.ldcInt hx hown (mvT hZ (hw _ (List.mem_of_getElem? (i := 5) rfl))) (g := (mkF m 39 #[.val (.int p1), .val (.int p2), .val (.int p3), .val (.int p4), .val (.int p5), .val (.ref b6), .unset, .unset, .unset, .unset, .unset] [(.int p5)])) rfl (hb hby at_39) _ ?_
    show Steps p.tables e below (T22.setTop (mkF m 41 #[.val (.int p1), .val (.int p2), .val (.int p3), .val (.int p4), .val (.int p5), .val (.ref b6), .unset, .unset, .unset, .unset, .unset] [(.int (2147483647 : Int32)), (.int p5)])) _
    refine XS.iand X22.here hx rfl (hb hby at_41) rfl ?_
    show Steps p.tables e below (T22.setTop (mkF m 42 #[.val (.int p1), .val (.int p2), .val (.int p3), .val (.int p4), .val (.int p5), .val (.ref b6), .unset, .unset, .unset, .unset, .unset] [(.int (p5 &&& (2147483647 : Int32)))])) _
    refine XS.iconst X22.here hx rfl (hb hby at_42) ?_
    show Steps p.tables e below (T22.setTop (mkF m 43 #[.val (.int p1), .val (.int p2), .val (.int p3), .val (.int p4), .val (.int p5), .val (.ref b6), .unset, .unset, .unset, .unset, .unset] [(.int (5 : Int32)), (.int (p5 &&& (2147483647 : Int32)))])) _
    refine XS.irem X22.here hx rfl (hb hby at_43) rfl (by decide) ?_
    show Steps p.tables e below (T22.setTop (mkF m 44 #[.val (.int p1), .val (.int p2), .val (.int p3), .val (.int p4), .val (.int p5), .val (.ref b6), .unset, .unset, .unset, .unset, .unset] [(.int (f0_v43 p1 p2 p3 p4 p5))])) _
    refine XS.istore X22.here hx rfl (hb hby at_44) rfl (l' := #[.val (.int p1), .val (.int p2), .val (.int p3), .val (.int p4), .val (.int p5), .val (.ref b6), .val (.int (f0_v43 p1 p2 p3 p4 p5)), .unset, .unset, .unset, .unset]) rfl ?_
    show Steps p.tables e below (T22.setTop (mkF m 46 #[.val (.int p1), .val (.int p2), .val (.int p3), .val (.int p4), .val (.int p5), .val (.ref b6), .val (.int (f0_v43 p1 p2 p3 p4 p5)), .unset, .unset, .unset, .unset] [])) _
    refine XS.iload X22.here hx rfl (hb hby at_46) rfl ?_
    show Steps p.tables e below (T22.setTop (mkF m 48 #[.val (.int p1), .val (.int p2), .val (.int p3), .val (.int p4), .val (.int p5), .val (.ref b6), .val (.int (f0_v43 p1 p2 p3 p4 p5)), .unset, .unset, .unset, .unset] [(.int p5)])) _
    refine XS.bipush X22.here hx rfl (hb hby at_48) ?_
    show Steps p.tables e below (T22.setTop (mkF m 50 #[.val (.int p1), .val (.int p2), .val (.int p3), .val (.int p4), .val (.int p5), .val (.ref b6), .val (.int (f0_v43 p1 p2 p3 p4 p5)), .unset, .unset, .unset, .unset] [(.int (8 : Int32)), (.int p5)])) _
    refine XS.iushr X22.here hx rfl (hb hby at_50) rfl ?_
    show Steps p.tables e below (T22.setTop (mkF m 51 #[.val (.int p1), .val (.int p2), .val (.int p3), .val (.int p4), .val (.int p5), .val (.ref b6), .val (.int (f0_v43 p1 p2 p3 p4 p5)), .unset, .unset, .unset, .unset] [(.int ((p5.toUInt32 >>> ((8 : Int32) &&& 31).toUInt32).toInt32))])) _
    refine XS.bipush X22.here hx rfl (hb hby at_51) ?_
    show Steps p.tables e below (T22.setTop (mkF m 53 #[.val (.int p1), .val (.int p2), .val (.int p3), .val (.int p4), .val (.int p5), .val (.ref b6), .val (.int (f0_v43 p1 p2 p3 p4 p5)), .unset, .unset, .unset, .unset] [(.int (7 : Int32)), (.int ((p5.toUInt32 >>> ((8 : Int32) &&& 31).toUInt32).toInt32))])) _
    refine XS.iand X22.here hx rfl (hb hby at_53) rfl ?_
    show Steps p.tables e below (T22.setTop (mkF m 54 #[.val (.int p1), .val (.int p2), .val (.int p3), .val (.int p4), .val (.int p5), .val (.ref b6), .val (.int (f0_v43 p1 p2 p3 p4 p5)), .unset, .unset, .unset, .unset] [(.int (((p5.toUInt32 >>> ((8 : Int32) &&& 31).toUInt32).toInt32) &&& (7 : Int32)))])) _
    refine XS.iconst X22.here hx rfl (hb hby at_54) ?_
    show Steps p.tables e below (T22.setTop (mkF m 55 #[.val (.int p1), .val (.int p2), .val (.int p3), .val (.int p4), .val (.int p5), .val (.ref b6), .val (.int (f0_v43 p1 p2 p3 p4 p5)), .unset, .unset, .unset, .unset] [(.int (5 : Int32)), (.int (((p5.toUInt32 >>> ((8 : Int32) &&& 31).toUInt32).toInt32) &&& (7 : Int32)))])) _
    refine XS.iload X22.here hx rfl (hb hby at_55) rfl ?_
    show Steps p.tables e below (T22.setTop (mkF m 57 #[.val (.int p1), .val (.int p2), .val (.int p3), .val (.int p4), .val (.int p5), .val (.ref b6), .val (.int (f0_v43 p1 p2 p3 p4 p5)), .unset, .unset, .unset, .unset] [(.int (f0_v43 p1 p2 p3 p4 p5)), (.int (5 : Int32)), (.int (((p5.toUInt32 >>> ((8 : Int32) &&& 31).toUInt32).toInt32) &&& (7 : Int32)))])) _
    refine XS.isub X22.here hx rfl (hb hby at_57) rfl ?_
    show Steps p.tables e below (T22.setTop (mkF m 58 #[.val (.int p1), .val (.int p2), .val (.int p3), .val (.int p4), .val (.int p5), .val (.ref b6), .val (.int (f0_v43 p1 p2 p3 p4 p5)), .unset, .unset, .unset, .unset] [(.int ((5 : Int32) - (f0_v43 p1 p2 p3 p4 p5))), (.int (((p5.toUInt32 >>> ((8 : Int32) &&& 31).toUInt32).toInt32) &&& (7 : Int32)))])) _
    refine XS.irem X22.here hx rfl (hb hby at_58) rfl (own_nz _ _ _ _ _) ?_
    show Steps p.tables e below (T22.setTop (mkF m 59 #[.val (.int p1), .val (.int p2), .val (.int p3), .val (.int p4), .val (.int p5), .val (.ref b6), .val (.int (f0_v43 p1 p2 p3 p4 p5)), .unset, .unset, .unset, .unset] [(.int (f0_v58 p1 p2 p3 p4 p5))])) _
    refine XS.istore X22.here hx rfl (hb hby at_59) rfl (l' := #[.val (.int p1), .val (.int p2), .val (.int p3), .val (.int p4), .val (.int p5), .val (.ref b6), .val (.int (f0_v43 p1 p2 p3 p4 p5)), .val (.int (f0_v58 p1 p2 p3 p4 p5)), .unset, .unset, .unset]) rfl ?_
    show Steps p.tables e below (T22.setTop (mkF m 61 #[.val (.int p1), .val (.int p2), .val (.int p3), .val (.int p4), .val (.int p5), .val (.ref b6), .val (.int (f0_v43 p1 p2 p3 p4 p5)), .val (.int (f0_v58 p1 p2 p3 p4 p5)), .unset, .unset, .unset] [])) _
    refine XS.iload X22.here hx rfl (hb hby at_61) rfl ?_
    show Steps p.tables e below (T22.setTop (mkF m 63 #[.val (.int p1), .val (.int p2), .val (.int p3), .val (.int p4), .val (.int p5), .val (.ref b6), .val (.int (f0_v43 p1 p2 p3 p4 p5)), .val (.int (f0_v58 p1 p2 p3 p4 p5)), .unset, .unset, .unset] [(.int (f0_v43 p1 p2 p3 p4 p5))])) _
    refine XS.iload X22.here hx rfl (hb hby at_63) rfl ?_
    show Steps p.tables e below (T22.setTop (mkF m 65 #[.val (.int p1), .val (.int p2), .val (.int p3), .val (.int p4), .val (.int p5), .val (.ref b6), .val (.int (f0_v43 p1 p2 p3 p4 p5)), .val (.int (f0_v58 p1 p2 p3 p4 p5)), .unset, .unset, .unset] [(.int (f0_v58 p1 p2 p3 p4 p5)), (.int (f0_v43 p1 p2 p3 p4 p5))])) _
    refine XS.iadd X22.here hx rfl (hb hby at_65) rfl ?_
    show Steps p.tables e below (T22.setTop (mkF m 66 #[.val (.int p1), .val (.int p2), .val (.int p3), .val (.int p4), .val (.int p5), .val (.ref b6), .val (.int (f0_v43 p1 p2 p3 p4 p5)), .val (.int (f0_v58 p1 p2 p3 p4 p5)), .unset, .unset, .unset] [(.int ((f0_v43 p1 p2 p3 p4 p5) + (f0_v58 p1 p2 p3 p4 p5)))])) _
    refine XS.istore X22.here hx rfl (hb hby at_66) rfl (l' := #[.val (.int p1), .val (.int p2), .val (.int p3), .val (.int p4), .val (.int p5), .val (.ref b6), .val (.int (f0_v43 p1 p2 p3 p4 p5)), .val (.int (f0_v58 p1 p2 p3 p4 p5)), .val (.int ((f0_v43 p1 p2 p3 p4 p5) + (f0_v58 p1 p2 p3 p4 p5))), .unset, .unset]) rfl ?_
    show Steps p.tables e below (T22.setTop (mkF m 68 #[.val (.int p1), .val (.int p2), .val (.int p3), .val (.int p4), .val (.int p5), .val (.ref b6), .val (.int (f0_v43 p1 p2 p3 p4 p5)), .val (.int (f0_v58 p1 p2 p3 p4 p5)), .val (.int ((f0_v43 p1 p2 p3 p4 p5) + (f0_v58 p1 p2 p3 p4 p5))), .unset, .unset] [])) _
    refine XS.iload X22.here hx rfl (hb hby at_68) rfl ?_
    exact k
  by_cases hc70 : (f0_v58 p1 p2 p3 p4 p5) = (0 : Int32)
  · obtain ⟨_, _, ⟨T25, L25, k25, n25⟩, -, X25, ⟨Lc25, hQ25, l25, y25, z25⟩, st25⟩ := Jvm.LawKit.callS X22 hx (y := (⟨"com/example/erewash/erewash/RobotsTxtParser", "namesEveryone", "([BII)Z"⟩ : MethodName)) hown (mvT hZ (hw _ (List.mem_of_getElem? (i := 6) rfl))) (mvT hZ (hw _ (List.mem_of_getElem? (i := 7) rfl))) (mvT hZ (hw _ (List.mem_of_getElem? (i := 8) rfl))) (mvT hZ (hw _ (List.mem_of_getElem? (i := 9) rfl))) (by decide) (backOf (W := 0) (rm2 l Z a0 hw [] b6 (f0_v43 p1 p2 p3 p4 p5) ((f0_v43 p1 p2 p3 p4 p5) + (f0_v58 p1 p2 p3 p4 p5)) (4 : Int32) (f0_v36 p1 p2 p3 p4 p5) h22 n0 c23 c24 (own_prem _ _ _ _ _)) hZ (hw _ (List.mem_of_getElem? (i := 9) rfl)) (hw _ (List.mem_of_getElem? (i := 8) rfl)) (by decide) (by decide)) (g := (mkF m 122 #[.val (.int p1), .val (.int p2), .val (.int p3), .val (.int p4), .val (.int p5), .val (.ref b6), .val (.int (f0_v43 p1 p2 p3 p4 p5)), .val (.int (f0_v58 p1 p2 p3 p4 p5)), .val (.int ((f0_v43 p1 p2 p3 p4 p5) + (f0_v58 p1 p2 p3 p4 p5))), .val (.int (0 : Int32)), .unset] [(.int ((f0_v43 p1 p2 p3 p4 p5) + (f0_v58 p1 p2 p3 p4 p5))), (.int (f0_v43 p1 p2 p3 p4 p5)), (.ref b6)])) rfl (by rw [hml]; rfl) (argsL := [(.ref b6), (.int (f0_v43 p1 p2 p3 p4 p5)), (.int ((f0_v43 p1 p2 p3 p4 p5) + (f0_v58 p1 p2 p3 p4 p5)))]) (rest := []) (lenOf pd_1 rfl) rfl (by show 2 * 0 + _ ≤ _; exact Nat.le_of_eq rfl) (hb hby at_122) (fun _ _ => ⟨rfl, e22, (by decide : 1 + 0 ≤ _), (by decide : 4 + 0 ≤ _)⟩)
    dsimp only [Pt.U, Pt.locs, Pt.cells, Pt.slots] at X25 l25 y25 z25 st25 hQ25
    subst l25 y25 z25
    obtain ⟨rfl, N25q, e25⟩ := hQ25
    have N25 := Fr.app N22 N25q
    have pre2 : ∀ t, Steps p.tables e below (T25.setTop (mkF m 131 #[.val (.int p1), .val (.int p2), .val (.int p3), .val (.int p4), .val (.int p5), .val (.ref b6), .val (.int (f0_v43 p1 p2 p3 p4 p5)), .val (.int (f0_v58 p1 p2 p3 p4 p5)), .val (.int ((f0_v43 p1 p2 p3 p4 p5) + (f0_v58 p1 p2 p3 p4 p5))), .val (.int (0 : Int32)), .val (.int (f0_v125 p1 p2 p3 p4 p5))] [(.int (0 : Int32)), (.int (f0_v125 p1 p2 p3 p4 p5))])) t → Steps p.tables e below (s₁.setTop (entryFrame m #[(.int p1), (.int p2), (.int p3), (.int p4), (.int p5)] maxLocals)) t := by
      intro t k
      refine pre1 t ?_
      show Steps p.tables e below (T22.setTop (mkF m 70 #[.val (.int p1), .val (.int p2), .val (.int p3), .val (.int p4), .val (.int p5), .val (.ref b6), .val (.int (f0_v43 p1 p2 p3 p4 p5)), .val (.int (f0_v58 p1 p2 p3 p4 p5)), .val (.int ((f0_v43 p1 p2 p3 p4 p5) + (f0_v58 p1 p2 p3 p4 p5))), .unset, .unset] [(.int (f0_v58 p1 p2 p3 p4 p5))])) _
      refine XS.ifNo X22.here hx rfl (hb hby at_70) rfl ((if0 _ _).trans (teq hc70).2) ?_
      show Steps p.tables e below (T22.setTop (mkF m 73 #[.val (.int p1), .val (.int p2), .val (.int p3), .val (.int p4), .val (.int p5), .val (.ref b6), .val (.int (f0_v43 p1 p2 p3 p4 p5)), .val (.int (f0_v58 p1 p2 p3 p4 p5)), .val (.int ((f0_v43 p1 p2 p3 p4 p5) + (f0_v58 p1 p2 p3 p4 p5))), .unset, .unset] [])) _
      refine XS.iconst X22.here hx rfl (hb hby at_73) ?_
      show Steps p.tables e below (T22.setTop (mkF m 74 #[.val (.int p1), .val (.int p2), .val (.int p3), .val (.int p4), .val (.int p5), .val (.ref b6), .val (.int (f0_v43 p1 p2 p3 p4 p5)), .val (.int (f0_v58 p1 p2 p3 p4 p5)), .val (.int ((f0_v43 p1 p2 p3 p4 p5) + (f0_v58 p1 p2 p3 p4 p5))), .unset, .unset] [(.int (0 : Int32))])) _
      refine XS.istore X22.here hx rfl (hb hby at_74) rfl (l' := #[.val (.int p1), .val (.int p2), .val (.int p3), .val (.int p4), .val (.int p5), .val (.ref b6), .val (.int (f0_v43 p1 p2 p3 p4 p5)), .val (.int (f0_v58 p1 p2 p3 p4 p5)), .val (.int ((f0_v43 p1 p2 p3 p4 p5) + (f0_v58 p1 p2 p3 p4 p5))), .val (.int (0 : Int32)), .unset]) rfl ?_
      show Steps p.tables e below (T22.setTop (mkF m 76 #[.val (.int p1), .val (.int p2), .val (.int p3), .val (.int p4), .val (.int p5), .val (.ref b6), .val (.int (f0_v43 p1 p2 p3 p4 p5)), .val (.int (f0_v58 p1 p2 p3 p4 p5)), .val (.int ((f0_v43 p1 p2 p3 p4 p5) + (f0_v58 p1 p2 p3 p4 p5))), .val (.int (0 : Int32)), .unset] [])) _
      refine XS.goto X22.here hx rfl (pc0 := 76) (pc' := 116) rfl (hb hby at_76) (by decide) (by decide) ?_
      show Steps p.tables e below (T22.setTop (mkF m 116 #[.val (.int p1), .val (.int p2), .val (.int p3), .val (.int p4), .val (.int p5), .val (.ref b6), .val (.int (f0_v43 p1 p2 p3 p4 p5)), .val (.int (f0_v58 p1 p2 p3 p4 p5)), .val (.int ((f0_v43 p1 p2 p3 p4 p5) + (f0_v58 p1 p2 p3 p4 p5))), .val (.int (0 : Int32)), .unset] [])) _
      refine XS.aload X22.here hx rfl (hb hby at_116) rfl rfl ?_
      show Steps p.tables e below (T22.setTop (mkF m 118 #[.val (.int p1), .val (.int p2), .val (.int p3), .val (.int p4), .val (.int p5), .val (.ref b6), .val (.int (f0_v43 p1 p2 p3 p4 p5)), .val (.int (f0_v58 p1 p2 p3 p4 p5)), .val (.int ((f0_v43 p1 p2 p3 p4 p5) + (f0_v58 p1 p2 p3 p4 p5))), .val (.int (0 : Int32)), .unset] [(.ref b6)])) _
      refine XS.iload X22.here hx rfl (hb hby at_118) rfl ?_
      show Steps p.tables e below (T22.setTop (mkF m 120 #[.val (.int p1), .val (.int p2), .val (.int p3), .val (.int p4), .val (.int p5), .val (.ref b6), .val (.int (f0_v43 p1 p2 p3 p4 p5)), .val (.int (f0_v58 p1 p2 p3 p4 p5)), .val (.int ((f0_v43 p1 p2 p3 p4 p5) + (f0_v58 p1 p2 p3 p4 p5))), .val (.int (0 : Int32)), .unset] [(.int (f0_v43 p1 p2 p3 p4 p5)), (.ref b6)])) _
      refine XS.iload X22.here hx rfl (hb hby at_120) rfl ?_
      show Steps p.tables e below (T22.setTop (mkF m 122 #[.val (.int p1), .val (.int p2), .val (.int p3), .val (.int p4), .val (.int p5), .val (.ref b6), .val (.int (f0_v43 p1 p2 p3 p4 p5)), .val (.int (f0_v58 p1 p2 p3 p4 p5)), .val (.int ((f0_v43 p1 p2 p3 p4 p5) + (f0_v58 p1 p2 p3 p4 p5))), .val (.int (0 : Int32)), .unset] [(.int ((f0_v43 p1 p2 p3 p4 p5) + (f0_v58 p1 p2 p3 p4 p5))), (.int (f0_v43 p1 p2 p3 p4 p5)), (.ref b6)])) _
      refine st25 _ ?_
      show Steps p.tables e below (T25.setTop (mkF m 125 #[.val (.int p1), .val (.int p2), .val (.int p3), .val (.int p4), .val (.int p5), .val (.ref b6), .val (.int (f0_v43 p1 p2 p3 p4 p5)), .val (.int (f0_v58 p1 p2 p3 p4 p5)), .val (.int ((f0_v43 p1 p2 p3 p4 p5) + (f0_v58 p1 p2 p3 p4 p5))), .val (.int (0 : Int32)), .unset] [(.int (f2 (f0_v43 p1 p2 p3 p4 p5) ((f0_v43 p1 p2 p3 p4 p5) + (f0_v58 p1 p2 p3 p4 p5)) (4 : Int32) (f0_v36 p1 p2 p3 p4 p5)))])) _
      refine XS.istore X25.here hx rfl (hb hby at_125) rfl (l' := #[.val (.int p1), .val (.int p2), .val (.int p3), .val (.int p4), .val (.int p5), .val (.ref b6), .val (.int (f0_v43 p1 p2 p3 p4 p5)), .val (.int (f0_v58 p1 p2 p3 p4 p5)), .val (.int ((f0_v43 p1 p2 p3 p4 p5) + (f0_v58 p1 p2 p3 p4 p5))), .val (.int (0 : Int32)), .val (.int (f0_v125 p1 p2 p3 p4 p5))]) rfl ?_
      show Steps p.tables e below (T25.setTop (mkF m 127 #[.val (.int p1), .val (.int p2), .val (.int p3), .val (.int p4), .val (.int p5), .val (.ref b6), .val (.int (f0_v43 p1 p2 p3 p4 p5)), .val (.int (f0_v58 p1 p2 p3 p4 p5)), .val (.int ((f0_v43 p1 p2 p3 p4 p5) + (f0_v58 p1 p2 p3 p4 p5))), .val (.int (0 : Int32)), .val (.int (f0_v125 p1 p2 p3 p4 p5))] [])) _
      refine XS.iload X25.here hx rfl (hb hby at_127) rfl ?_
      show Steps p.tables e below (T25.setTop (mkF m 129 #[.val (.int p1), .val (.int p2), .val (.int p3), .val (.int p4), .val (.int p5), .val (.ref b6), .val (.int (f0_v43 p1 p2 p3 p4 p5)), .val (.int (f0_v58 p1 p2 p3 p4 p5)), .val (.int ((f0_v43 p1 p2 p3 p4 p5) + (f0_v58 p1 p2 p3 p4 p5))), .val (.int (0 : Int32)), .val (.int (f0_v125 p1 p2 p3 p4 p5))] [(.int (f0_v125 p1 p2 p3 p4 p5))])) _
      refine XS.iload X25.here hx rfl (hb hby at_129) rfl ?_
      exact k
    by_cases hc131 : (f0_v125 p1 p2 p3 p4 p5) = (0 : Int32)
    · have eq3 : (f0 p1 p2 p3 p4 p5) = (1 : Int32) := by unfold f0; simp only [if_pos hc70, if_pos hc131]
      obtain ⟨fs, hr, hrun, hended, hW, hsame⟩ := X25.leave (v := some (.int (1 : Int32))) (fun h => by rw [Bd.returns] at h; cases h)
      refine ⟨_, _, pre2 _ ?_, hrun, hended, _, _, rfl, ?_, ⟨_, rfl⟩, hW, hsame.mono (by decide) (by decide)⟩
      · show Steps p.tables e below (T25.setTop (mkF m 131 #[.val (.int p1), .val (.int p2), .val (.int p3), .val (.int p4), .val (.int p5), .val (.ref b6), .val (.int (f0_v43 p1 p2 p3 p4 p5)), .val (.int (f0_v58 p1 p2 p3 p4 p5)), .val (.int ((f0_v43 p1 p2 p3 p4 p5) + (f0_v58 p1 p2 p3 p4 p5))), .val (.int (0 : Int32)), .val (.int (f0_v125 p1 p2 p3 p4 p5))] [(.int (0 : Int32)), (.int (f0_v125 p1 p2 p3 p4 p5))])) _
        refine XS.icmpNo X25.here hx rfl (hb hby at_131) rfl (teq hc131).2 ?_
        show Steps p.tables e below (T25.setTop (mkF m 134 #[.val (.int p1), .val (.int p2), .val (.int p3), .val (.int p4), .val (.int p5), .val (.ref b6), .val (.int (f0_v43 p1 p2 p3 p4 p5)), .val (.int (f0_v58 p1 p2 p3 p4 p5)), .val (.int ((f0_v43 p1 p2 p3 p4 p5) + (f0_v58 p1 p2 p3 p4 p5))), .val (.int (0 : Int32)), .val (.int (f0_v125 p1 p2 p3 p4 p5))] [])) _
        refine XS.iconst X25.here hx rfl (hb hby at_134) ?_
        show Steps p.tables e below (T25.setTop (mkF m 135 #[.val (.int p1), .val (.int p2), .val (.int p3), .val (.int p4), .val (.int p5), .val (.ref b6), .val (.int (f0_v43 p1 p2 p3 p4 p5)), .val (.int (f0_v58 p1 p2 p3 p4 p5)), .val (.int ((f0_v43 p1 p2 p3 p4 p5) + (f0_v58 p1 p2 p3 p4 p5))), .val (.int (0 : Int32)), .val (.int (f0_v125 p1 p2 p3 p4 p5))] [(.int (1 : Int32))])) _
        refine XS.goto X25.here hx rfl (pc0 := 135) (pc' := 139) rfl (hb hby at_135) (by decide) (by decide) ?_
        show Steps p.tables e below (T25.setTop (mkF m 139 #[.val (.int p1), .val (.int p2), .val (.int p3), .val (.int p4), .val (.int p5), .val (.ref b6), .val (.int (f0_v43 p1 p2 p3 p4 p5)), .val (.int (f0_v58 p1 p2 p3 p4 p5)), .val (.int ((f0_v43 p1 p2 p3 p4 p5) + (f0_v58 p1 p2 p3 p4 p5))), .val (.int (0 : Int32)), .val (.int (f0_v125 p1 p2 p3 p4 p5))] [(.int (1 : Int32))])) _
        exact retN X25 hx (t := .boolean) Bd.returns (by simp) (hb hby at_139) hr
      · show Q0 Z p1 p2 p3 p4 p5 h0 n0 _ T25.heap _
        rw [e25]
        exact ⟨by rw [eq3], N25, trivial⟩
    · have eq4 : (f0 p1 p2 p3 p4 p5) = (0 : Int32) := by unfold f0; simp only [if_pos hc70, if_neg hc131]
      obtain ⟨fs, hr, hrun, hended, hW, hsame⟩ := X25.leave (v := some (.int (0 : Int32))) (fun h => by rw [Bd.returns] at h; cases h)
      refine ⟨_, _, pre2 _ ?_, hrun, hended, _, _, rfl, ?_, ⟨_, rfl⟩, hW, hsame.mono (by decide) (by decide)⟩
      · show Steps p.tables e below (T25.setTop (mkF m 131 #[.val (.int p1), .val (.int p2), .val (.int p3), .val (.int p4), .val (.int p5), .val (.ref b6), .val (.int (f0_v43 p1 p2 p3 p4 p5)), .val (.int (f0_v58 p1 p2 p3 p4 p5)), .val (.int ((f0_v43 p1 p2 p3 p4 p5) + (f0_v58 p1 p2 p3 p4 p5))), .val (.int (0 : Int32)), .val (.int (f0_v125 p1 p2 p3 p4 p5))] [(.int (0 : Int32)), (.int (f0_v125 p1 p2 p3 p4 p5))])) _
        refine XS.icmpYes X25.here hx rfl (pc0 := 131) (pc' := 138) rfl (hb hby at_131) rfl (feq hc131).2 (by decide) (by decide) ?_
        show Steps p.tables e below (T25.setTop (mkF m 138 #[.val (.int p1), .val (.int p2), .val (.int p3), .val (.int p4), .val (.int p5), .val (.ref b6), .val (.int (f0_v43 p1 p2 p3 p4 p5)), .val (.int (f0_v58 p1 p2 p3 p4 p5)), .val (.int ((f0_v43 p1 p2 p3 p4 p5) + (f0_v58 p1 p2 p3 p4 p5))), .val (.int (0 : Int32)), .val (.int (f0_v125 p1 p2 p3 p4 p5))] [])) _
        refine XS.iconst X25.here hx rfl (hb hby at_138) ?_
        show Steps p.tables e below (T25.setTop (mkF m 139 #[.val (.int p1), .val (.int p2), .val (.int p3), .val (.int p4), .val (.int p5), .val (.ref b6), .val (.int (f0_v43 p1 p2 p3 p4 p5)), .val (.int (f0_v58 p1 p2 p3 p4 p5)), .val (.int ((f0_v43 p1 p2 p3 p4 p5) + (f0_v58 p1 p2 p3 p4 p5))), .val (.int (0 : Int32)), .val (.int (f0_v125 p1 p2 p3 p4 p5))] [(.int (0 : Int32))])) _
        exact retN X25 hx (t := .boolean) Bd.returns (by simp) (hb hby at_139) hr
      · show Q0 Z p1 p2 p3 p4 p5 h0 n0 _ T25.heap _
        rw [e25]
        exact ⟨by rw [eq4], N25, trivial⟩
  · have pre5 : ∀ t, Steps p.tables e below (T22.setTop (mkF m 82 #[.val (.int p1), .val (.int p2), .val (.int p3), .val (.int p4), .val (.int p5), .val (.ref b6), .val (.int (f0_v43 p1 p2 p3 p4 p5)), .val (.int (f0_v58 p1 p2 p3 p4 p5)), .val (.int ((f0_v43 p1 p2 p3 p4 p5) + (f0_v58 p1 p2 p3 p4 p5))), .unset, .unset] [(.int (2 : Int32)), (.int (f0_v58 p1 p2 p3 p4 p5))])) t → Steps p.tables e below (s₁.setTop (entryFrame m #[(.int p1), (.int p2), (.int p3), (.int p4), (.int p5)] maxLocals)) t := by
      intro t k
      refine pre1 t ?_
      show Steps p.tables e below (T22.setTop (mkF m 70 #[.val (.int p1), .val (.int p2), .val (.int p3), .val (.int p4), .val (.int p5), .val (.ref b6), .val (.int (f0_v43 p1 p2 p3 p4 p5)), .val (.int (f0_v58 p1 p2 p3 p4 p5)), .val (.int ((f0_v43 p1 p2 p3 p4 p5) + (f0_v58 p1 p2 p3 p4 p5))), .unset, .unset] [(.int (f0_v58 p1 p2 p3 p4 p5))])) _
      refine XS.ifYes X22.here hx rfl (pc0 := 70) (pc' := 79) rfl (hb hby at_70) rfl ((if0 _ _).trans (feq hc70).2) (by decide) (by decide) ?_
      show Steps p.tables e below (T22.setTop (mkF m 79 #[.val (.int p1), .val (.int p2), .val (.int p3), .val (.int p4), .val (.int p5), .val (.ref b6), .val (.int (f0_v43 p1 p2 p3 p4 p5)), .val (.int (f0_v58 p1 p2 p3 p4 p5)), .val (.int ((f0_v43 p1 p2 p3 p4 p5) + (f0_v58 p1 p2 p3 p4 p5))), .unset, .unset] [])) _
      refine XS.iload X22.here hx rfl (hb hby at_79) rfl ?_
      show Steps p.tables e below (T22.setTop (mkF m 81 #[.val (.int p1), .val (.int p2), .val (.int p3), .val (.int p4), .val (.int p5), .val (.ref b6), .val (.int (f0_v43 p1 p2 p3 p4 p5)), .val (.int (f0_v58 p1 p2 p3 p4 p5)), .val (.int ((f0_v43 p1 p2 p3 p4 p5) + (f0_v58 p1 p2 p3 p4 p5))), .unset, .unset] [(.int (f0_v58 p1 p2 p3 p4 p5))])) _
      refine XS.iconst X22.here hx rfl (hb hby at_81) ?_
      exact k
    by_cases hc82 : (f0_v58 p1 p2 p3 p4 p5) < (2 : Int32)
    · have pre6 : ∀ t, Steps p.tables e below (T22.setTop (mkF m 106 #[.val (.int p1), .val (.int p2), .val (.int p3), .val (.int p4), .val (.int p5), .val (.ref b6), .val (.int (f0_v43 p1 p2 p3 p4 p5)), .val (.int (f0_v58 p1 p2 p3 p4 p5)), .val (.int ((f0_v43 p1 p2 p3 p4 p5) + (f0_v58 p1 p2 p3 p4 p5))), .unset, .val (.int (((f0_v36 p1 p2 p3 p4 p5) ((f0_v43 p1 p2 p3 p4 p5)).toNatClampNeg) &&& (255 : Int32)))] [(.int (42 : Int32)), (.int (((f0_v36 p1 p2 p3 p4 p5) ((f0_v43 p1 p2 p3 p4 p5)).toNatClampNeg) &&& (255 : Int32)))])) t → Steps p.tables e below (s₁.setTop (entryFrame m #[(.int p1), (.int p2), (.int p3), (.int p4), (.int p5)] maxLocals)) t := by
        intro t k
        refine pre5 t ?_
        show Steps p.tables e below (T22.setTop (mkF m 82 #[.val (.int p1), .val (.int p2), .val (.int p3), .val (.int p4), .val (.int p5), .val (.ref b6), .val (.int (f0_v43 p1 p2 p3 p4 p5)), .val (.int (f0_v58 p1 p2 p3 p4 p5)), .val (.int ((f0_v43 p1 p2 p3 p4 p5) + (f0_v58 p1 p2 p3 p4 p5))), .unset, .unset] [(.int (2 : Int32)), (.int (f0_v58 p1 p2 p3 p4 p5))])) _
        refine XS.icmpYes X22.here hx rfl (pc0 := 82) (pc' := 91) rfl (hb hby at_82) rfl (tlt hc82).1 (by decide) (by decide) ?_
        show Steps p.tables e below (T22.setTop (mkF m 91 #[.val (.int p1), .val (.int p2), .val (.int p3), .val (.int p4), .val (.int p5), .val (.ref b6), .val (.int (f0_v43 p1 p2 p3 p4 p5)), .val (.int (f0_v58 p1 p2 p3 p4 p5)), .val (.int ((f0_v43 p1 p2 p3 p4 p5) + (f0_v58 p1 p2 p3 p4 p5))), .unset, .unset] [])) _
        refine XS.aload X22.here hx rfl (hb hby at_91) rfl rfl ?_
        show Steps p.tables e below (T22.setTop (mkF m 93 #[.val (.int p1), .val (.int p2), .val (.int p3), .val (.int p4), .val (.int p5), .val (.ref b6), .val (.int (f0_v43 p1 p2 p3 p4 p5)), .val (.int (f0_v58 p1 p2 p3 p4 p5)), .val (.int ((f0_v43 p1 p2 p3 p4 p5) + (f0_v58 p1 p2 p3 p4 p5))), .unset, .unset] [(.ref b6)])) _
        refine XS.iload X22.here hx rfl (hb hby at_93) rfl ?_
        show Steps p.tables e below (T22.setTop (mkF m 95 #[.val (.int p1), .val (.int p2), .val (.int p3), .val (.int p4), .val (.int p5), .val (.ref b6), .val (.int (f0_v43 p1 p2 p3 p4 p5)), .val (.int (f0_v58 p1 p2 p3 p4 p5)), .val (.int ((f0_v43 p1 p2 p3 p4 p5) + (f0_v58 p1 p2 p3 p4 p5))), .unset, .unset] [(.int (f0_v43 p1 p2 p3 p4 p5)), (.ref b6)])) _
        refine ldB X22 hx hZ e22 c24 (j := (f0_v43 p1 p2 p3 p4 p5)) (own_inb _ _ _ _ _ hc70 hc82) (g := (mkF m 95 #[.val (.int p1), .val (.int p2), .val (.int p3), .val (.int p4), .val (.int p5), .val (.ref b6), .val (.int (f0_v43 p1 p2 p3 p4 p5)), .val (.int (f0_v58 p1 p2 p3 p4 p5)), .val (.int ((f0_v43 p1 p2 p3 p4 p5) + (f0_v58 p1 p2 p3 p4 p5))), .unset, .unset] [(.int (f0_v43 p1 p2 p3 p4 p5)), (.ref b6)])) rfl rfl (hb hby at_95) ?_
        show Steps p.tables e below (T22.setTop (mkF m 96 #[.val (.int p1), .val (.int p2), .val (.int p3), .val (.int p4), .val (.int p5), .val (.ref b6), .val (.int (f0_v43 p1 p2 p3 p4 p5)), .val (.int (f0_v58 p1 p2 p3 p4 p5)), .val (.int ((f0_v43 p1 p2 p3 p4 p5) + (f0_v58 p1 p2 p3 p4 p5))), .unset, .unset] [(.int ((f0_v36 p1 p2 p3 p4 p5) ((f0_v43 p1 p2 p3 p4 p5)).toNatClampNeg))])) _
        refine XS.sipush X22.here hx rfl (hb hby at_96) ?_
        show Steps p.tables e below (T22.setTop (mkF m 99 #[.val (.int p1), .val (.int p2), .val (.int p3), .val (.int p4), .val (.int p5), .val (.ref b6), .val (.int (f0_v43 p1 p2 p3 p4 p5)), .val (.int (f0_v58 p1 p2 p3 p4 p5)), .val (.int ((f0_v43 p1 p2 p3 p4 p5) + (f0_v58 p1 p2 p3 p4 p5))), .unset, .unset] [(.int (255 : Int32)), (.int ((f0_v36 p1 p2 p3 p4 p5) ((f0_v43 p1 p2 p3 p4 p5)).toNatClampNeg))])) _
        refine XS.iand X22.here hx rfl (hb hby at_99) rfl ?_
        show Steps p.tables e below (T22.setTop (mkF m 100 #[.val (.int p1), .val (.int p2), .val (.int p3), .val (.int p4), .val (.int p5), .val (.ref b6), .val (.int (f0_v43 p1 p2 p3 p4 p5)), .val (.int (f0_v58 p1 p2 p3 p4 p5)), .val (.int ((f0_v43 p1 p2 p3 p4 p5) + (f0_v58 p1 p2 p3 p4 p5))), .unset, .unset] [(.int (((f0_v36 p1 p2 p3 p4 p5) ((f0_v43 p1 p2 p3 p4 p5)).toNatClampNeg) &&& (255 : Int32)))])) _
        refine XS.istore X22.here hx rfl (hb hby at_100) rfl (l' := #[.val (.int p1), .val (.int p2), .val (.int p3), .val (.int p4), .val (.int p5), .val (.ref b6), .val (.int (f0_v43 p1 p2 p3 p4 p5)), .val (.int (f0_v58 p1 p2 p3 p4 p5)), .val (.int ((f0_v43 p1 p2 p3 p4 p5) + (f0_v58 p1 p2 p3 p4 p5))), .unset, .val (.int (((f0_v36 p1 p2 p3 p4 p5) ((f0_v43 p1 p2 p3 p4 p5)).toNatClampNeg) &&& (255 : Int32)))]) rfl ?_
        show Steps p.tables e below (T22.setTop (mkF m 102 #[.val (.int p1), .val (.int p2), .val (.int p3), .val (.int p4), .val (.int p5), .val (.ref b6), .val (.int (f0_v43 p1 p2 p3 p4 p5)), .val (.int (f0_v58 p1 p2 p3 p4 p5)), .val (.int ((f0_v43 p1 p2 p3 p4 p5) + (f0_v58 p1 p2 p3 p4 p5))), .unset, .val (.int (((f0_v36 p1 p2 p3 p4 p5) ((f0_v43 p1 p2 p3 p4 p5)).toNatClampNeg) &&& (255 : Int32)))] [])) _
        refine XS.iload X22.here hx rfl (hb hby at_102) rfl ?_
        show Steps p.tables e below (T22.setTop (mkF m 104 #[.val (.int p1), .val (.int p2), .val (.int p3), .val (.int p4), .val (.int p5), .val (.ref b6), .val (.int (f0_v43 p1 p2 p3 p4 p5)), .val (.int (f0_v58 p1 p2 p3 p4 p5)), .val (.int ((f0_v43 p1 p2 p3 p4 p5) + (f0_v58 p1 p2 p3 p4 p5))), .unset, .val (.int (((f0_v36 p1 p2 p3 p4 p5) ((f0_v43 p1 p2 p3 p4 p5)).toNatClampNeg) &&& (255 : Int32)))] [(.int (((f0_v36 p1 p2 p3 p4 p5) ((f0_v43 p1 p2 p3 p4 p5)).toNatClampNeg) &&& (255 : Int32)))])) _
        refine XS.bipush X22.here hx rfl (hb hby at_104) ?_
        exact k
      have pre7 : ∀ t, Steps p.tables e below (T22.setTop (mkF m 114 #[.val (.int p1), .val (.int p2), .val (.int p3), .val (.int p4), .val (.int p5), .val (.ref b6), .val (.int (f0_v43 p1 p2 p3 p4 p5)), .val (.int (f0_v58 p1 p2 p3 p4 p5)), .val (.int ((f0_v43 p1 p2 p3 p4 p5) + (f0_v58 p1 p2 p3 p4 p5))), .unset, .val (.int (((f0_v36 p1 p2 p3 p4 p5) ((f0_v43 p1 p2 p3 p4 p5)).toNatClampNeg) &&& (255 : Int32)))] [(.int (f0_s0_114 p1 p2 p3 p4 p5))])) t → Steps p.tables e below (s₁.setTop (entryFrame m #[(.int p1), (.int p2), (.int p3), (.int p4), (.int p5)] maxLocals)) t := by
        intro t k
        by_cases hc106 : (((f0_v36 p1 p2 p3 p4 p5) ((f0_v43 p1 p2 p3 p4 p5)).toNatClampNeg) &&& (255 : Int32)) = (42 : Int32)
        · have eq8 := (show (f0_s0_114 p1 p2 p3 p4 p5) = (1 : Int32) from by unfold f0_s0_114; simp only [if_pos hc106])
          try rw [eq8] at k
          refine pre6 t ?_
          show Steps p.tables e below (T22.setTop (mkF m 106 #[.val (.int p1), .val (.int p2), .val (.int p3), .val (.int p4), .val (.int p5), .val (.ref b6), .val (.int (f0_v43 p1 p2 p3 p4 p5)), .val (.int (f0_v58 p1 p2 p3 p4 p5)), .val (.int ((f0_v43 p1 p2 p3 p4 p5) + (f0_v58 p1 p2 p3 p4 p5))), .unset, .val (.int (((f0_v36 p1 p2 p3 p4 p5) ((f0_v43 p1 p2 p3 p4 p5)).toNatClampNeg) &&& (255 : Int32)))] [(.int (42 : Int32)), (.int (((f0_v36 p1 p2 p3 p4 p5) ((f0_v43 p1 p2 p3 p4 p5)).toNatClampNeg) &&& (255 : Int32)))])) _
          refine XS.icmpNo X22.here hx rfl (hb hby at_106) rfl (teq hc106).2 ?_
          show Steps p.tables e below (T22.setTop (mkF m 109 #[.val (.int p1), .val (.int p2), .val (.int p3), .val (.int p4), .val (.int p5), .val (.ref b6), .val (.int (f0_v43 p1 p2 p3 p4 p5)), .val (.int (f0_v58 p1 p2 p3 p4 p5)), .val (.int ((f0_v43 p1 p2 p3 p4 p5) + (f0_v58 p1 p2 p3 p4 p5))), .unset, .val (.int (((f0_v36 p1 p2 p3 p4 p5) ((f0_v43 p1 p2 p3 p4 p5)).toNatClampNeg) &&& (255 : Int32)))] [])) _
          refine XS.iconst X22.here hx rfl (hb hby at_109) ?_
          show Steps p.tables e below (T22.setTop (mkF m 110 #[.val (.int p1), .val (.int p2), .val (.int p3), .val (.int p4), .val (.int p5), .val (.ref b6), .val (.int (f0_v43 p1 p2 p3 p4 p5)), .val (.int (f0_v58 p1 p2 p3 p4 p5)), .val (.int ((f0_v43 p1 p2 p3 p4 p5) + (f0_v58 p1 p2 p3 p4 p5))), .unset, .val (.int (((f0_v36 p1 p2 p3 p4 p5) ((f0_v43 p1 p2 p3 p4 p5)).toNatClampNeg) &&& (255 : Int32)))] [(.int (1 : Int32))])) _
          refine XS.goto X22.here hx rfl (pc0 := 110) (pc' := 114) rfl (hb hby at_110) (by decide) (by decide) ?_
          exact k
        · have eq9 := (show (f0_s0_114 p1 p2 p3 p4 p5) = (0 : Int32) from by unfold f0_s0_114; simp only [if_neg hc106])
          try rw [eq9] at k
          refine pre6 t ?_
          show Steps p.tables e below (T22.setTop (mkF m 106 #[.val (.int p1), .val (.int p2), .val (.int p3), .val (.int p4), .val (.int p5), .val (.ref b6), .val (.int (f0_v43 p1 p2 p3 p4 p5)), .val (.int (f0_v58 p1 p2 p3 p4 p5)), .val (.int ((f0_v43 p1 p2 p3 p4 p5) + (f0_v58 p1 p2 p3 p4 p5))), .unset, .val (.int (((f0_v36 p1 p2 p3 p4 p5) ((f0_v43 p1 p2 p3 p4 p5)).toNatClampNeg) &&& (255 : Int32)))] [(.int (42 : Int32)), (.int (((f0_v36 p1 p2 p3 p4 p5) ((f0_v43 p1 p2 p3 p4 p5)).toNatClampNeg) &&& (255 : Int32)))])) _
          refine XS.icmpYes X22.here hx rfl (pc0 := 106) (pc' := 113) rfl (hb hby at_106) rfl (feq hc106).2 (by decide) (by decide) ?_
          show Steps p.tables e below (T22.setTop (mkF m 113 #[.val (.int p1), .val (.int p2), .val (.int p3), .val (.int p4), .val (.int p5), .val (.ref b6), .val (.int (f0_v43 p1 p2 p3 p4 p5)), .val (.int (f0_v58 p1 p2 p3 p4 p5)), .val (.int ((f0_v43 p1 p2 p3 p4 p5) + (f0_v58 p1 p2 p3 p4 p5))), .unset, .val (.int (((f0_v36 p1 p2 p3 p4 p5) ((f0_v43 p1 p2 p3 p4 p5)).toNatClampNeg) &&& (255 : Int32)))] [])) _
          refine XS.iconst X22.here hx rfl (hb hby at_113) ?_
          exact k
      obtain ⟨_, _, ⟨T26, L26, k26, n26⟩, -, X26, ⟨Lc26, hQ26, l26, y26, z26⟩, st26⟩ := Jvm.LawKit.callS X22 hx (y := (⟨"com/example/erewash/erewash/RobotsTxtParser", "namesEveryone", "([BII)Z"⟩ : MethodName)) hown (mvT hZ (hw _ (List.mem_of_getElem? (i := 6) rfl))) (mvT hZ (hw _ (List.mem_of_getElem? (i := 7) rfl))) (mvT hZ (hw _ (List.mem_of_getElem? (i := 8) rfl))) (mvT hZ (hw _ (List.mem_of_getElem? (i := 9) rfl))) (by decide) (backOf (W := 0) (rm2 l Z a0 hw [] b6 (f0_v43 p1 p2 p3 p4 p5) ((f0_v43 p1 p2 p3 p4 p5) + (f0_v58 p1 p2 p3 p4 p5)) (4 : Int32) (f0_v36 p1 p2 p3 p4 p5) h22 n0 c23 c24 (own_prem _ _ _ _ _)) hZ (hw _ (List.mem_of_getElem? (i := 9) rfl)) (hw _ (List.mem_of_getElem? (i := 8) rfl)) (by decide) (by decide)) (g := (mkF m 122 #[.val (.int p1), .val (.int p2), .val (.int p3), .val (.int p4), .val (.int p5), .val (.ref b6), .val (.int (f0_v43 p1 p2 p3 p4 p5)), .val (.int (f0_v58 p1 p2 p3 p4 p5)), .val (.int ((f0_v43 p1 p2 p3 p4 p5) + (f0_v58 p1 p2 p3 p4 p5))), .val (.int (f0_s0_114 p1 p2 p3 p4 p5)), .val (.int (((f0_v36 p1 p2 p3 p4 p5) ((f0_v43 p1 p2 p3 p4 p5)).toNatClampNeg) &&& (255 : Int32)))] [(.int ((f0_v43 p1 p2 p3 p4 p5) + (f0_v58 p1 p2 p3 p4 p5))), (.int (f0_v43 p1 p2 p3 p4 p5)), (.ref b6)])) rfl (by rw [hml]; rfl) (argsL := [(.ref b6), (.int (f0_v43 p1 p2 p3 p4 p5)), (.int ((f0_v43 p1 p2 p3 p4 p5) + (f0_v58 p1 p2 p3 p4 p5)))]) (rest := []) (lenOf pd_1 rfl) rfl (by show 2 * 0 + _ ≤ _; exact Nat.le_of_eq rfl) (hb hby at_122) (fun _ _ => ⟨rfl, e22, (by decide : 1 + 0 ≤ _), (by decide : 4 + 0 ≤ _)⟩)
      dsimp only [Pt.U, Pt.locs, Pt.cells, Pt.slots] at X26 l26 y26 z26 st26 hQ26
      subst l26 y26 z26
      obtain ⟨rfl, N26q, e26⟩ := hQ26
      have N26 := Fr.app N22 N26q
      have pre10 : ∀ t, Steps p.tables e below (T26.setTop (mkF m 131 #[.val (.int p1), .val (.int p2), .val (.int p3), .val (.int p4), .val (.int p5), .val (.ref b6), .val (.int (f0_v43 p1 p2 p3 p4 p5)), .val (.int (f0_v58 p1 p2 p3 p4 p5)), .val (.int ((f0_v43 p1 p2 p3 p4 p5) + (f0_v58 p1 p2 p3 p4 p5))), .val (.int (f0_s0_114 p1 p2 p3 p4 p5)), .val (.int (f0_v125 p1 p2 p3 p4 p5))] [(.int (f0_s0_114 p1 p2 p3 p4 p5)), (.int (f0_v125 p1 p2 p3 p4 p5))])) t → Steps p.tables e below (s₁.setTop (entryFrame m #[(.int p1), (.int p2), (.int p3), (.int p4), (.int p5)] maxLocals)) t := by
        intro t k
        refine pre7 t ?_
        show Steps p.tables e below (T22.setTop (mkF m 114 #[.val (.int p1), .val (.int p2), .val (.int p3), .val (.int p4), .val (.int p5), .val (.ref b6), .val (.int (f0_v43 p1 p2 p3 p4 p5)), .val (.int (f0_v58 p1 p2 p3 p4 p5)), .val (.int ((f0_v43 p1 p2 p3 p4 p5) + (f0_v58 p1 p2 p3 p4 p5))), .unset, .val (.int (((f0_v36 p1 p2 p3 p4 p5) ((f0_v43 p1 p2 p3 p4 p5)).toNatClampNeg) &&& (255 : Int32)))] [(.int (f0_s0_114 p1 p2 p3 p4 p5))])) _
        refine XS.istore X22.here hx rfl (hb hby at_114) rfl (l' := #[.val (.int p1), .val (.int p2), .val (.int p3), .val (.int p4), .val (.int p5), .val (.ref b6), .val (.int (f0_v43 p1 p2 p3 p4 p5)), .val (.int (f0_v58 p1 p2 p3 p4 p5)), .val (.int ((f0_v43 p1 p2 p3 p4 p5) + (f0_v58 p1 p2 p3 p4 p5))), .val (.int (f0_s0_114 p1 p2 p3 p4 p5)), .val (.int (((f0_v36 p1 p2 p3 p4 p5) ((f0_v43 p1 p2 p3 p4 p5)).toNatClampNeg) &&& (255 : Int32)))]) rfl ?_
        show Steps p.tables e below (T22.setTop (mkF m 116 #[.val (.int p1), .val (.int p2), .val (.int p3), .val (.int p4), .val (.int p5), .val (.ref b6), .val (.int (f0_v43 p1 p2 p3 p4 p5)), .val (.int (f0_v58 p1 p2 p3 p4 p5)), .val (.int ((f0_v43 p1 p2 p3 p4 p5) + (f0_v58 p1 p2 p3 p4 p5))), .val (.int (f0_s0_114 p1 p2 p3 p4 p5)), .val (.int (((f0_v36 p1 p2 p3 p4 p5) ((f0_v43 p1 p2 p3 p4 p5)).toNatClampNeg) &&& (255 : Int32)))] [])) _
        refine XS.aload X22.here hx rfl (hb hby at_116) rfl rfl ?_
        show Steps p.tables e below (T22.setTop (mkF m 118 #[.val (.int p1), .val (.int p2), .val (.int p3), .val (.int p4), .val (.int p5), .val (.ref b6), .val (.int (f0_v43 p1 p2 p3 p4 p5)), .val (.int (f0_v58 p1 p2 p3 p4 p5)), .val (.int ((f0_v43 p1 p2 p3 p4 p5) + (f0_v58 p1 p2 p3 p4 p5))), .val (.int (f0_s0_114 p1 p2 p3 p4 p5)), .val (.int (((f0_v36 p1 p2 p3 p4 p5) ((f0_v43 p1 p2 p3 p4 p5)).toNatClampNeg) &&& (255 : Int32)))] [(.ref b6)])) _
        refine XS.iload X22.here hx rfl (hb hby at_118) rfl ?_
        show Steps p.tables e below (T22.setTop (mkF m 120 #[.val (.int p1), .val (.int p2), .val (.int p3), .val (.int p4), .val (.int p5), .val (.ref b6), .val (.int (f0_v43 p1 p2 p3 p4 p5)), .val (.int (f0_v58 p1 p2 p3 p4 p5)), .val (.int ((f0_v43 p1 p2 p3 p4 p5) + (f0_v58 p1 p2 p3 p4 p5))), .val (.int (f0_s0_114 p1 p2 p3 p4 p5)), .val (.int (((f0_v36 p1 p2 p3 p4 p5) ((f0_v43 p1 p2 p3 p4 p5)).toNatClampNeg) &&& (255 : Int32)))] [(.int (f0_v43 p1 p2 p3 p4 p5)), (.ref b6)])) _
        refine XS.iload X22.here hx rfl (hb hby at_120) rfl ?_
        show Steps p.tables e below (T22.setTop (mkF m 122 #[.val (.int p1), .val (.int p2), .val (.int p3), .val (.int p4), .val (.int p5), .val (.ref b6), .val (.int (f0_v43 p1 p2 p3 p4 p5)), .val (.int (f0_v58 p1 p2 p3 p4 p5)), .val (.int ((f0_v43 p1 p2 p3 p4 p5) + (f0_v58 p1 p2 p3 p4 p5))), .val (.int (f0_s0_114 p1 p2 p3 p4 p5)), .val (.int (((f0_v36 p1 p2 p3 p4 p5) ((f0_v43 p1 p2 p3 p4 p5)).toNatClampNeg) &&& (255 : Int32)))] [(.int ((f0_v43 p1 p2 p3 p4 p5) + (f0_v58 p1 p2 p3 p4 p5))), (.int (f0_v43 p1 p2 p3 p4 p5)), (.ref b6)])) _
        refine st26 _ ?_
        show Steps p.tables e below (T26.setTop (mkF m 125 #[.val (.int p1), .val (.int p2), .val (.int p3), .val (.int p4), .val (.int p5), .val (.ref b6), .val (.int (f0_v43 p1 p2 p3 p4 p5)), .val (.int (f0_v58 p1 p2 p3 p4 p5)), .val (.int ((f0_v43 p1 p2 p3 p4 p5) + (f0_v58 p1 p2 p3 p4 p5))), .val (.int (f0_s0_114 p1 p2 p3 p4 p5)), .val (.int (((f0_v36 p1 p2 p3 p4 p5) ((f0_v43 p1 p2 p3 p4 p5)).toNatClampNeg) &&& (255 : Int32)))] [(.int (f2 (f0_v43 p1 p2 p3 p4 p5) ((f0_v43 p1 p2 p3 p4 p5) + (f0_v58 p1 p2 p3 p4 p5)) (4 : Int32) (f0_v36 p1 p2 p3 p4 p5)))])) _
        refine XS.istore X26.here hx rfl (hb hby at_125) rfl (l' := #[.val (.int p1), .val (.int p2), .val (.int p3), .val (.int p4), .val (.int p5), .val (.ref b6), .val (.int (f0_v43 p1 p2 p3 p4 p5)), .val (.int (f0_v58 p1 p2 p3 p4 p5)), .val (.int ((f0_v43 p1 p2 p3 p4 p5) + (f0_v58 p1 p2 p3 p4 p5))), .val (.int (f0_s0_114 p1 p2 p3 p4 p5)), .val (.int (f0_v125 p1 p2 p3 p4 p5))]) rfl ?_
        show Steps p.tables e below (T26.setTop (mkF m 127 #[.val (.int p1), .val (.int p2), .val (.int p3), .val (.int p4), .val (.int p5), .val (.ref b6), .val (.int (f0_v43 p1 p2 p3 p4 p5)), .val (.int (f0_v58 p1 p2 p3 p4 p5)), .val (.int ((f0_v43 p1 p2 p3 p4 p5) + (f0_v58 p1 p2 p3 p4 p5))), .val (.int (f0_s0_114 p1 p2 p3 p4 p5)), .val (.int (f0_v125 p1 p2 p3 p4 p5))] [])) _
        refine XS.iload X26.here hx rfl (hb hby at_127) rfl ?_
        show Steps p.tables e below (T26.setTop (mkF m 129 #[.val (.int p1), .val (.int p2), .val (.int p3), .val (.int p4), .val (.int p5), .val (.ref b6), .val (.int (f0_v43 p1 p2 p3 p4 p5)), .val (.int (f0_v58 p1 p2 p3 p4 p5)), .val (.int ((f0_v43 p1 p2 p3 p4 p5) + (f0_v58 p1 p2 p3 p4 p5))), .val (.int (f0_s0_114 p1 p2 p3 p4 p5)), .val (.int (f0_v125 p1 p2 p3 p4 p5))] [(.int (f0_v125 p1 p2 p3 p4 p5))])) _
        refine XS.iload X26.here hx rfl (hb hby at_129) rfl ?_
        exact k
      by_cases hc131 : (f0_v125 p1 p2 p3 p4 p5) = (f0_s0_114 p1 p2 p3 p4 p5)
      · have eq11 : (f0 p1 p2 p3 p4 p5) = (1 : Int32) := by unfold f0; simp only [if_neg hc70, if_pos hc82, if_pos hc131]
        obtain ⟨fs, hr, hrun, hended, hW, hsame⟩ := X26.leave (v := some (.int (1 : Int32))) (fun h => by rw [Bd.returns] at h; cases h)
        refine ⟨_, _, pre10 _ ?_, hrun, hended, _, _, rfl, ?_, ⟨_, rfl⟩, hW, hsame.mono (by decide) (by decide)⟩
        · show Steps p.tables e below (T26.setTop (mkF m 131 #[.val (.int p1), .val (.int p2), .val (.int p3), .val (.int p4), .val (.int p5), .val (.ref b6), .val (.int (f0_v43 p1 p2 p3 p4 p5)), .val (.int (f0_v58 p1 p2 p3 p4 p5)), .val (.int ((f0_v43 p1 p2 p3 p4 p5) + (f0_v58 p1 p2 p3 p4 p5))), .val (.int (f0_s0_114 p1 p2 p3 p4 p5)), .val (.int (f0_v125 p1 p2 p3 p4 p5))] [(.int (f0_s0_114 p1 p2 p3 p4 p5)), (.int (f0_v125 p1 p2 p3 p4 p5))])) _
          refine XS.icmpNo X26.here hx rfl (hb hby at_131) rfl (teq hc131).2 ?_
          show Steps p.tables e below (T26.setTop (mkF m 134 #[.val (.int p1), .val (.int p2), .val (.int p3), .val (.int p4), .val (.int p5), .val (.ref b6), .val (.int (f0_v43 p1 p2 p3 p4 p5)), .val (.int (f0_v58 p1 p2 p3 p4 p5)), .val (.int ((f0_v43 p1 p2 p3 p4 p5) + (f0_v58 p1 p2 p3 p4 p5))), .val (.int (f0_s0_114 p1 p2 p3 p4 p5)), .val (.int (f0_v125 p1 p2 p3 p4 p5))] [])) _
          refine XS.iconst X26.here hx rfl (hb hby at_134) ?_
          show Steps p.tables e below (T26.setTop (mkF m 135 #[.val (.int p1), .val (.int p2), .val (.int p3), .val (.int p4), .val (.int p5), .val (.ref b6), .val (.int (f0_v43 p1 p2 p3 p4 p5)), .val (.int (f0_v58 p1 p2 p3 p4 p5)), .val (.int ((f0_v43 p1 p2 p3 p4 p5) + (f0_v58 p1 p2 p3 p4 p5))), .val (.int (f0_s0_114 p1 p2 p3 p4 p5)), .val (.int (f0_v125 p1 p2 p3 p4 p5))] [(.int (1 : Int32))])) _
          refine XS.goto X26.here hx rfl (pc0 := 135) (pc' := 139) rfl (hb hby at_135) (by decide) (by decide) ?_
          show Steps p.tables e below (T26.setTop (mkF m 139 #[.val (.int p1), .val (.int p2), .val (.int p3), .val (.int p4), .val (.int p5), .val (.ref b6), .val (.int (f0_v43 p1 p2 p3 p4 p5)), .val (.int (f0_v58 p1 p2 p3 p4 p5)), .val (.int ((f0_v43 p1 p2 p3 p4 p5) + (f0_v58 p1 p2 p3 p4 p5))), .val (.int (f0_s0_114 p1 p2 p3 p4 p5)), .val (.int (f0_v125 p1 p2 p3 p4 p5))] [(.int (1 : Int32))])) _
          exact retN X26 hx (t := .boolean) Bd.returns (by simp) (hb hby at_139) hr
        · show Q0 Z p1 p2 p3 p4 p5 h0 n0 _ T26.heap _
          rw [e26]
          exact ⟨by rw [eq11], N26, trivial⟩
      · have eq12 : (f0 p1 p2 p3 p4 p5) = (0 : Int32) := by unfold f0; simp only [if_neg hc70, if_pos hc82, if_neg hc131]
        obtain ⟨fs, hr, hrun, hended, hW, hsame⟩ := X26.leave (v := some (.int (0 : Int32))) (fun h => by rw [Bd.returns] at h; cases h)
        refine ⟨_, _, pre10 _ ?_, hrun, hended, _, _, rfl, ?_, ⟨_, rfl⟩, hW, hsame.mono (by decide) (by decide)⟩
        · show Steps p.tables e below (T26.setTop (mkF m 131 #[.val (.int p1), .val (.int p2), .val (.int p3), .val (.int p4), .val (.int p5), .val (.ref b6), .val (.int (f0_v43 p1 p2 p3 p4 p5)), .val (.int (f0_v58 p1 p2 p3 p4 p5)), .val (.int ((f0_v43 p1 p2 p3 p4 p5) + (f0_v58 p1 p2 p3 p4 p5))), .val (.int (f0_s0_114 p1 p2 p3 p4 p5)), .val (.int (f0_v125 p1 p2 p3 p4 p5))] [(.int (f0_s0_114 p1 p2 p3 p4 p5)), (.int (f0_v125 p1 p2 p3 p4 p5))])) _
          refine XS.icmpYes X26.here hx rfl (pc0 := 131) (pc' := 138) rfl (hb hby at_131) rfl (feq hc131).2 (by decide) (by decide) ?_
          show Steps p.tables e below (T26.setTop (mkF m 138 #[.val (.int p1), .val (.int p2), .val (.int p3), .val (.int p4), .val (.int p5), .val (.ref b6), .val (.int (f0_v43 p1 p2 p3 p4 p5)), .val (.int (f0_v58 p1 p2 p3 p4 p5)), .val (.int ((f0_v43 p1 p2 p3 p4 p5) + (f0_v58 p1 p2 p3 p4 p5))), .val (.int (f0_s0_114 p1 p2 p3 p4 p5)), .val (.int (f0_v125 p1 p2 p3 p4 p5))] [])) _
          refine XS.iconst X26.here hx rfl (hb hby at_138) ?_
          show Steps p.tables e below (T26.setTop (mkF m 139 #[.val (.int p1), .val (.int p2), .val (.int p3), .val (.int p4), .val (.int p5), .val (.ref b6), .val (.int (f0_v43 p1 p2 p3 p4 p5)), .val (.int (f0_v58 p1 p2 p3 p4 p5)), .val (.int ((f0_v43 p1 p2 p3 p4 p5) + (f0_v58 p1 p2 p3 p4 p5))), .val (.int (f0_s0_114 p1 p2 p3 p4 p5)), .val (.int (f0_v125 p1 p2 p3 p4 p5))] [(.int (0 : Int32))])) _
          exact retN X26 hx (t := .boolean) Bd.returns (by simp) (hb hby at_139) hr
        · show Q0 Z p1 p2 p3 p4 p5 h0 n0 _ T26.heap _
          rw [e26]
          exact ⟨by rw [eq12], N26, trivial⟩
    · obtain ⟨_, _, ⟨T27, L27, k27, n27⟩, -, X27, ⟨Lc27, hQ27, l27, y27, z27⟩, st27⟩ := Jvm.LawKit.callS X22 hx (y := (⟨"com/example/erewash/erewash/RobotsTxtParser", "namesEveryone", "([BII)Z"⟩ : MethodName)) hown (mvT hZ (hw _ (List.mem_of_getElem? (i := 6) rfl))) (mvT hZ (hw _ (List.mem_of_getElem? (i := 7) rfl))) (mvT hZ (hw _ (List.mem_of_getElem? (i := 8) rfl))) (mvT hZ (hw _ (List.mem_of_getElem? (i := 9) rfl))) (by decide) (backOf (W := 0) (rm2 l Z a0 hw [] b6 (f0_v43 p1 p2 p3 p4 p5) ((f0_v43 p1 p2 p3 p4 p5) + (f0_v58 p1 p2 p3 p4 p5)) (4 : Int32) (f0_v36 p1 p2 p3 p4 p5) h22 n0 c23 c24 (own_prem _ _ _ _ _)) hZ (hw _ (List.mem_of_getElem? (i := 9) rfl)) (hw _ (List.mem_of_getElem? (i := 8) rfl)) (by decide) (by decide)) (g := (mkF m 122 #[.val (.int p1), .val (.int p2), .val (.int p3), .val (.int p4), .val (.int p5), .val (.ref b6), .val (.int (f0_v43 p1 p2 p3 p4 p5)), .val (.int (f0_v58 p1 p2 p3 p4 p5)), .val (.int ((f0_v43 p1 p2 p3 p4 p5) + (f0_v58 p1 p2 p3 p4 p5))), .val (.int (0 : Int32)), .unset] [(.int ((f0_v43 p1 p2 p3 p4 p5) + (f0_v58 p1 p2 p3 p4 p5))), (.int (f0_v43 p1 p2 p3 p4 p5)), (.ref b6)])) rfl (by rw [hml]; rfl) (argsL := [(.ref b6), (.int (f0_v43 p1 p2 p3 p4 p5)), (.int ((f0_v43 p1 p2 p3 p4 p5) + (f0_v58 p1 p2 p3 p4 p5)))]) (rest := []) (lenOf pd_1 rfl) rfl (by show 2 * 0 + _ ≤ _; exact Nat.le_of_eq rfl) (hb hby at_122) (fun _ _ => ⟨rfl, e22, (by decide : 1 + 0 ≤ _), (by decide : 4 + 0 ≤ _)⟩)
      dsimp only [Pt.U, Pt.locs, Pt.cells, Pt.slots] at X27 l27 y27 z27 st27 hQ27
      subst l27 y27 z27
      obtain ⟨rfl, N27q, e27⟩ := hQ27
      have N27 := Fr.app N22 N27q
      have pre13 : ∀ t, Steps p.tables e below (T27.setTop (mkF m 131 #[.val (.int p1), .val (.int p2), .val (.int p3), .val (.int p4), .val (.int p5), .val (.ref b6), .val (.int (f0_v43 p1 p2 p3 p4 p5)), .val (.int (f0_v58 p1 p2 p3 p4 p5)), .val (.int ((f0_v43 p1 p2 p3 p4 p5) + (f0_v58 p1 p2 p3 p4 p5))), .val (.int (0 : Int32)), .val (.int (f0_v125 p1 p2 p3 p4 p5))] [(.int (0 : Int32)), (.int (f0_v125 p1 p2 p3 p4 p5))])) t → Steps p.tables e below (s₁.setTop (entryFrame m #[(.int p1), (.int p2), (.int p3), (.int p4), (.int p5)] maxLocals)) t := by
        intro t k
        refine pre5 t ?_
        show Steps p.tables e below (T22.setTop (mkF m 82 #[.val (.int p1), .val (.int p2), .val (.int p3), .val (.int p4), .val (.int p5), .val (.ref b6), .val (.int (f0_v43 p1 p2 p3 p4 p5)), .val (.int (f0_v58 p1 p2 p3 p4 p5)), .val (.int ((f0_v43 p1 p2 p3 p4 p5) + (f0_v58 p1 p2 p3 p4 p5))), .unset, .unset] [(.int (2 : Int32)), (.int (f0_v58 p1 p2 p3 p4 p5))])) _
        refine XS.icmpNo X22.here hx rfl (hb hby at_82) rfl (flt hc82).1 ?_
        show Steps p.tables e below (T22.setTop (mkF m 85 #[.val (.int p1), .val (.int p2), .val (.int p3), .val (.int p4), .val (.int p5), .val (.ref b6), .val (.int (f0_v43 p1 p2 p3 p4 p5)), .val (.int (f0_v58 p1 p2 p3 p4 p5)), .val (.int ((f0_v43 p1 p2 p3 p4 p5) + (f0_v58 p1 p2 p3 p4 p5))), .unset, .unset] [])) _
        refine XS.iconst X22.here hx rfl (hb hby at_85) ?_
        show Steps p.tables e below (T22.setTop (mkF m 86 #[.val (.int p1), .val (.int p2), .val (.int p3), .val (.int p4), .val (.int p5), .val (.ref b6), .val (.int (f0_v43 p1 p2 p3 p4 p5)), .val (.int (f0_v58 p1 p2 p3 p4 p5)), .val (.int ((f0_v43 p1 p2 p3 p4 p5) + (f0_v58 p1 p2 p3 p4 p5))), .unset, .unset] [(.int (0 : Int32))])) _
        refine XS.istore X22.here hx rfl (hb hby at_86) rfl (l' := #[.val (.int p1), .val (.int p2), .val (.int p3), .val (.int p4), .val (.int p5), .val (.ref b6), .val (.int (f0_v43 p1 p2 p3 p4 p5)), .val (.int (f0_v58 p1 p2 p3 p4 p5)), .val (.int ((f0_v43 p1 p2 p3 p4 p5) + (f0_v58 p1 p2 p3 p4 p5))), .val (.int (0 : Int32)), .unset]) rfl ?_
        show Steps p.tables e below (T22.setTop (mkF m 88 #[.val (.int p1), .val (.int p2), .val (.int p3), .val (.int p4), .val (.int p5), .val (.ref b6), .val (.int (f0_v43 p1 p2 p3 p4 p5)), .val (.int (f0_v58 p1 p2 p3 p4 p5)), .val (.int ((f0_v43 p1 p2 p3 p4 p5) + (f0_v58 p1 p2 p3 p4 p5))), .val (.int (0 : Int32)), .unset] [])) _
        refine XS.goto X22.here hx rfl (pc0 := 88) (pc' := 116) rfl (hb hby at_88) (by decide) (by decide) ?_
        show Steps p.tables e below (T22.setTop (mkF m 116 #[.val (.int p1), .val (.int p2), .val (.int p3), .val (.int p4), .val (.int p5), .val (.ref b6), .val (.int (f0_v43 p1 p2 p3 p4 p5)), .val (.int (f0_v58 p1 p2 p3 p4 p5)), .val (.int ((f0_v43 p1 p2 p3 p4 p5) + (f0_v58 p1 p2 p3 p4 p5))), .val (.int (0 : Int32)), .unset] [])) _
        refine XS.aload X22.here hx rfl (hb hby at_116) rfl rfl ?_
        show Steps p.tables e below (T22.setTop (mkF m 118 #[.val (.int p1), .val (.int p2), .val (.int p3), .val (.int p4), .val (.int p5), .val (.ref b6), .val (.int (f0_v43 p1 p2 p3 p4 p5)), .val (.int (f0_v58 p1 p2 p3 p4 p5)), .val (.int ((f0_v43 p1 p2 p3 p4 p5) + (f0_v58 p1 p2 p3 p4 p5))), .val (.int (0 : Int32)), .unset] [(.ref b6)])) _
        refine XS.iload X22.here hx rfl (hb hby at_118) rfl ?_
        show Steps p.tables e below (T22.setTop (mkF m 120 #[.val (.int p1), .val (.int p2), .val (.int p3), .val (.int p4), .val (.int p5), .val (.ref b6), .val (.int (f0_v43 p1 p2 p3 p4 p5)), .val (.int (f0_v58 p1 p2 p3 p4 p5)), .val (.int ((f0_v43 p1 p2 p3 p4 p5) + (f0_v58 p1 p2 p3 p4 p5))), .val (.int (0 : Int32)), .unset] [(.int (f0_v43 p1 p2 p3 p4 p5)), (.ref b6)])) _
        refine XS.iload X22.here hx rfl (hb hby at_120) rfl ?_
        show Steps p.tables e below (T22.setTop (mkF m 122 #[.val (.int p1), .val (.int p2), .val (.int p3), .val (.int p4), .val (.int p5), .val (.ref b6), .val (.int (f0_v43 p1 p2 p3 p4 p5)), .val (.int (f0_v58 p1 p2 p3 p4 p5)), .val (.int ((f0_v43 p1 p2 p3 p4 p5) + (f0_v58 p1 p2 p3 p4 p5))), .val (.int (0 : Int32)), .unset] [(.int ((f0_v43 p1 p2 p3 p4 p5) + (f0_v58 p1 p2 p3 p4 p5))), (.int (f0_v43 p1 p2 p3 p4 p5)), (.ref b6)])) _
        refine st27 _ ?_
        show Steps p.tables e below (T27.setTop (mkF m 125 #[.val (.int p1), .val (.int p2), .val (.int p3), .val (.int p4), .val (.int p5), .val (.ref b6), .val (.int (f0_v43 p1 p2 p3 p4 p5)), .val (.int (f0_v58 p1 p2 p3 p4 p5)), .val (.int ((f0_v43 p1 p2 p3 p4 p5) + (f0_v58 p1 p2 p3 p4 p5))), .val (.int (0 : Int32)), .unset] [(.int (f2 (f0_v43 p1 p2 p3 p4 p5) ((f0_v43 p1 p2 p3 p4 p5) + (f0_v58 p1 p2 p3 p4 p5)) (4 : Int32) (f0_v36 p1 p2 p3 p4 p5)))])) _
        refine XS.istore X27.here hx rfl (hb hby at_125) rfl (l' := #[.val (.int p1), .val (.int p2), .val (.int p3), .val (.int p4), .val (.int p5), .val (.ref b6), .val (.int (f0_v43 p1 p2 p3 p4 p5)), .val (.int (f0_v58 p1 p2 p3 p4 p5)), .val (.int ((f0_v43 p1 p2 p3 p4 p5) + (f0_v58 p1 p2 p3 p4 p5))), .val (.int (0 : Int32)), .val (.int (f0_v125 p1 p2 p3 p4 p5))]) rfl ?_
        show Steps p.tables e below (T27.setTop (mkF m 127 #[.val (.int p1), .val (.int p2), .val (.int p3), .val (.int p4), .val (.int p5), .val (.ref b6), .val (.int (f0_v43 p1 p2 p3 p4 p5)), .val (.int (f0_v58 p1 p2 p3 p4 p5)), .val (.int ((f0_v43 p1 p2 p3 p4 p5) + (f0_v58 p1 p2 p3 p4 p5))), .val (.int (0 : Int32)), .val (.int (f0_v125 p1 p2 p3 p4 p5))] [])) _
        refine XS.iload X27.here hx rfl (hb hby at_127) rfl ?_
        show Steps p.tables e below (T27.setTop (mkF m 129 #[.val (.int p1), .val (.int p2), .val (.int p3), .val (.int p4), .val (.int p5), .val (.ref b6), .val (.int (f0_v43 p1 p2 p3 p4 p5)), .val (.int (f0_v58 p1 p2 p3 p4 p5)), .val (.int ((f0_v43 p1 p2 p3 p4 p5) + (f0_v58 p1 p2 p3 p4 p5))), .val (.int (0 : Int32)), .val (.int (f0_v125 p1 p2 p3 p4 p5))] [(.int (f0_v125 p1 p2 p3 p4 p5))])) _
        refine XS.iload X27.here hx rfl (hb hby at_129) rfl ?_
        exact k
      by_cases hc131 : (f0_v125 p1 p2 p3 p4 p5) = (0 : Int32)
      · have eq14 : (f0 p1 p2 p3 p4 p5) = (1 : Int32) := by unfold f0; simp only [if_neg hc70, if_neg hc82, if_pos hc131]
        obtain ⟨fs, hr, hrun, hended, hW, hsame⟩ := X27.leave (v := some (.int (1 : Int32))) (fun h => by rw [Bd.returns] at h; cases h)
        refine ⟨_, _, pre13 _ ?_, hrun, hended, _, _, rfl, ?_, ⟨_, rfl⟩, hW, hsame.mono (by decide) (by decide)⟩
        · show Steps p.tables e below (T27.setTop (mkF m 131 #[.val (.int p1), .val (.int p2), .val (.int p3), .val (.int p4), .val (.int p5), .val (.ref b6), .val (.int (f0_v43 p1 p2 p3 p4 p5)), .val (.int (f0_v58 p1 p2 p3 p4 p5)), .val (.int ((f0_v43 p1 p2 p3 p4 p5) + (f0_v58 p1 p2 p3 p4 p5))), .val (.int (0 : Int32)), .val (.int (f0_v125 p1 p2 p3 p4 p5))] [(.int (0 : Int32)), (.int (f0_v125 p1 p2 p3 p4 p5))])) _
          refine XS.icmpNo X27.here hx rfl (hb hby at_131) rfl (teq hc131).2 ?_
          show Steps p.tables e below (T27.setTop (mkF m 134 #[.val (.int p1), .val (.int p2), .val (.int p3), .val (.int p4), .val (.int p5), .val (.ref b6), .val (.int (f0_v43 p1 p2 p3 p4 p5)), .val (.int (f0_v58 p1 p2 p3 p4 p5)), .val (.int ((f0_v43 p1 p2 p3 p4 p5) + (f0_v58 p1 p2 p3 p4 p5))), .val (.int (0 : Int32)), .val (.int (f0_v125 p1 p2 p3 p4 p5))] [])) _
          refine XS.iconst X27.here hx rfl (hb hby at_134) ?_
          show Steps p.tables e below (T27.setTop (mkF m 135 #[.val (.int p1), .val (.int p2), .val (.int p3), .val (.int p4), .val (.int p5), .val (.ref b6), .val (.int (f0_v43 p1 p2 p3 p4 p5)), .val (.int (f0_v58 p1 p2 p3 p4 p5)), .val (.int ((f0_v43 p1 p2 p3 p4 p5) + (f0_v58 p1 p2 p3 p4 p5))), .val (.int (0 : Int32)), .val (.int (f0_v125 p1 p2 p3 p4 p5))] [(.int (1 : Int32))])) _
          refine XS.goto X27.here hx rfl (pc0 := 135) (pc' := 139) rfl (hb hby at_135) (by decide) (by decide) ?_
          show Steps p.tables e below (T27.setTop (mkF m 139 #[.val (.int p1), .val (.int p2), .val (.int p3), .val (.int p4), .val (.int p5), .val (.ref b6), .val (.int (f0_v43 p1 p2 p3 p4 p5)), .val (.int (f0_v58 p1 p2 p3 p4 p5)), .val (.int ((f0_v43 p1 p2 p3 p4 p5) + (f0_v58 p1 p2 p3 p4 p5))), .val (.int (0 : Int32)), .val (.int (f0_v125 p1 p2 p3 p4 p5))] [(.int (1 : Int32))])) _
          exact retN X27 hx (t := .boolean) Bd.returns (by simp) (hb hby at_139) hr
        · show Q0 Z p1 p2 p3 p4 p5 h0 n0 _ T27.heap _
          rw [e27]
          exact ⟨by rw [eq14], N27, trivial⟩
      · have eq15 : (f0 p1 p2 p3 p4 p5) = (0 : Int32) := by unfold f0; simp only [if_neg hc70, if_neg hc82, if_neg hc131]
        obtain ⟨fs, hr, hrun, hended, hW, hsame⟩ := X27.leave (v := some (.int (0 : Int32))) (fun h => by rw [Bd.returns] at h; cases h)
        refine ⟨_, _, pre13 _ ?_, hrun, hended, _, _, rfl, ?_, ⟨_, rfl⟩, hW, hsame.mono (by decide) (by decide)⟩
        · show Steps p.tables e below (T27.setTop (mkF m 131 #[.val (.int p1), .val (.int p2), .val (.int p3), .val (.int p4), .val (.int p5), .val (.ref b6), .val (.int (f0_v43 p1 p2 p3 p4 p5)), .val (.int (f0_v58 p1 p2 p3 p4 p5)), .val (.int ((f0_v43 p1 p2 p3 p4 p5) + (f0_v58 p1 p2 p3 p4 p5))), .val (.int (0 : Int32)), .val (.int (f0_v125 p1 p2 p3 p4 p5))] [(.int (0 : Int32)), (.int (f0_v125 p1 p2 p3 p4 p5))])) _
          refine XS.icmpYes X27.here hx rfl (pc0 := 131) (pc' := 138) rfl (hb hby at_131) rfl (feq hc131).2 (by decide) (by decide) ?_
          show Steps p.tables e below (T27.setTop (mkF m 138 #[.val (.int p1), .val (.int p2), .val (.int p3), .val (.int p4), .val (.int p5), .val (.ref b6), .val (.int (f0_v43 p1 p2 p3 p4 p5)), .val (.int (f0_v58 p1 p2 p3 p4 p5)), .val (.int ((f0_v43 p1 p2 p3 p4 p5) + (f0_v58 p1 p2 p3 p4 p5))), .val (.int (0 : Int32)), .val (.int (f0_v125 p1 p2 p3 p4 p5))] [])) _
          refine XS.iconst X27.here hx rfl (hb hby at_138) ?_
          show Steps p.tables e below (T27.setTop (mkF m 139 #[.val (.int p1), .val (.int p2), .val (.int p3), .val (.int p4), .val (.int p5), .val (.ref b6), .val (.int (f0_v43 p1 p2 p3 p4 p5)), .val (.int (f0_v58 p1 p2 p3 p4 p5)), .val (.int ((f0_v43 p1 p2 p3 p4 p5) + (f0_v58 p1 p2 p3 p4 p5))), .val (.int (0 : Int32)), .val (.int (f0_v125 p1 p2 p3 p4 p5))] [(.int (0 : Int32))])) _
          exact retN X27 hx (t := .boolean) Bd.returns (by simp) (hb hby at_139) hr
        · show Q0 Z p1 p2 p3 p4 p5 h0 n0 _ T27.heap _
          rw [e27]
          exact ⟨by rw [eq15], N27, trivial⟩
theorem own_updr {f : Nat → Int32} (hf : ∀ i, -128 ≤ (f i).toInt ∧ (f i).toInt < 128) (j : Nat) (y : Int32) : ∀ i, -128 ≤ (ownU f j (nar .byte y) i).toInt ∧ (ownU f j (nar .byte y) i).toInt < 128 := fun i => by
  unfold ownU
  split
  · exact (c_i2b y).2
  · exact hf i
theorem own_b255 (w n : Int32) (h : -128 ≤ w.toInt ∧ w.toInt < 128) (hn : 0 ≤ n.toInt ∧ n.toInt < 128) : (w &&& 255) = n ↔ w = n := by
  rw [← Int32.toInt_inj, ← Int32.toInt_inj, c_mask w 255 8 (by decide) (by decide)]
  omega
theorem own_law (a b c d x : Int32) : f0 a b c d x = 1 := by
  have hL := own_len a b c d x
  have hr : ∀ i, -128 ≤ (f0_v36 a b c d x i).toInt ∧ (f0_v36 a b c d x i).toInt < 128 := by
    unfold f0_v36 f0_v28 f0_v20 f0_v12
    exact own_updr (own_updr (own_updr (own_updr (fun _ => ⟨by decide, by decide⟩) _ _) _ _) _ _) _ _
  unfold f0 f0_v125 f0_s0_114 f2
  rw [own_dif]
  generalize f0_v58 a b c d x = n at *
  by_cases h0 : n = 0
  · subst h0
    rw [if_pos rfl, if_neg (show ¬ ((0 : Int32) = 1) by decide), if_pos rfl]
  · rw [if_neg h0]
    by_cases h2 : n < 2
    · rw [if_pos h2]
      have h1 : n = 1 := by
        rw [← Int32.toInt_inj] at h0 ⊢
        rw [Int32.lt_iff_toInt_lt] at h2
        have e0 : (0 : Int32).toInt = 0 := rfl
        have e1 : (1 : Int32).toInt = 1 := rfl
        have e2 : (2 : Int32).toInt = 2 := rfl
        omega
      rw [if_pos h1]
      simp only [own_b255 _ 42 (hr _) ⟨by decide, by decide⟩, if_true]
    · rw [if_neg h2, if_neg (show ¬ (n = 1) from fun q => h2 (by rw [q]; decide)), if_pos rfl]

set_option maxRecDepth 65536 in
set_option maxHeartbeats 40000000 in
theorem comes_1 {Post : Tables → Env → Array Value → State → Outcome → State → Prop} (hpost : ∀ tb e args s v u, (limb_1_1.after args s (.returned v) u = true ∧ limb_1_2.after args s (.returned v) u = true ∧ True) → FrameEnd s (.returned v) u (Jvm.fieldLocs frame_1_writes args s ++ Jvm.arrayLocs frame_1_arrays args s ++ Jvm.staticLocs frame_1_statics s) 16 128 → Post tb e args s (.returned v) u) :
    ArmFor flags0 classFile x code maxLocals ret World_1 tables_1 room_1 Calls_1 rest_1 Pre_1 Post := by
  intro l hfl _ _ p e ha hc hk s m args below hf hA hF happ hP
  obtain ⟨hcalls, hrest, hpre⟩ := hP
  obtain ⟨-, -, -, hnamed, -, -, -, hat⟩ := (Spec.applies_iff hf).mp happ
  obtain ⟨hg, hn⟩ := and_e (Cond.before_iff.mp (show (Jvm.Cond.and given_1 narrow_1).before args s = true from hpre))
  obtain ⟨g1, g2⟩ := and_e hg
  obtain ⟨g3, g4⟩ := and_e g2
  obtain ⟨g5, g6⟩ := and_e g4
  obtain ⟨g7, g8⟩ := and_e g6
  obtain ⟨g9, g10⟩ := and_e g8
  obtain ⟨w0, w1, w2, w3, w4, rfl⟩ : ∃ w0 w1 w2 w3 w4 : Value, args = #[w0, w1, w2, w3, w4] := by
    have hs : args.size = 5 := by simpa [Cond.value, given_1] using g1
    obtain ⟨L⟩ := args
    match L, hs with
    | [w0, w1, w2, w3, w4], _ => exact ⟨w0, w1, w2, w3, w4, rfl⟩
  have hw := fun d (hd : d ∈ tables_1) => atoms_spec (ws := Jvm.Cond.code x code maxLocals ret :: tables_1) hat d (List.mem_cons_of_mem _ hd)
  have hfit : Fit s := fun {y c} hc i hi => by
    obtain ⟨ha, rfl⟩ := Array.getElem?_eq_some_iff.mp hc
    have q := List.all_eq_true.mp ((Array.all_eq_true_iff_forall_mem.mp hF) _ (Array.getElem_mem ha)) i (List.mem_range.mpr hi)
    simpa [Array.getElem?_eq_getElem hi] using q
  obtain ⟨i0, ei0⟩ := is_v g3
  obtain rfl : w0 = (.int i0) := Option.some.inj ei0
  obtain ⟨i1, ei1⟩ := is_v g5
  obtain rfl : w1 = (.int i1) := Option.some.inj ei1
  obtain ⟨i2, ei2⟩ := is_v g7
  obtain rfl : w2 = (.int i2) := Option.some.inj ei2
  obtain ⟨i3, ei3⟩ := is_v g9
  obtain rfl : w3 = (.int i3) := Option.some.inj ei3
  obtain ⟨i4, ei4⟩ := is_v g10
  obtain rfl : w4 = (.int i4) := Option.some.inj ei4
  obtain ⟨n, o, h1, h2, h3, v', L, rfl, ⟨hv', N, -⟩, hq⟩ := rm0 l s _ hw tables_1 i0 i1 i2 i3 i4 s.heap s.heap.size (Nat.le_refl _)  p e ha hc hk s m _ below hf ((Spec.applies_iff_loose hf).mp happ).1 ⟨rfl, State.Warmed39.refl s, rfl⟩ trivial
  rw [own_law i0 i1 i2 i3 i4] at hv'
  subst hv'
  refine ⟨n, _, h1, h2, h3, hpost _ _ _ _ _ _ ⟨Cond.after_iff.mpr rfl, Cond.after_iff.mpr (eq_i res_at (Term.int_eval (1)) rfl), trivial⟩ ⟨hq.1, hq.2.1, (hq.2.2.sift fun y hy => Or.inr (N y hy)).mono (by decide) (by decide)⟩⟩
theorem main_1_1 : Claimed_1_1 := comes_1 fun _ _ _ _ _ _ h hF => ⟨h.1, hF⟩
theorem main_1_2 : Claimed_1_2 := comes_1 fun _ _ _ _ _ _ h hF => ⟨h.2.1, hF⟩
end Jvm.Pilot.@@N@@
namespace Jvm.Pilot.@@N@@
open Jvm Jvm.ClassFile Sem Op Lib Jvm.Free Jvm.Stand Jvm.Pilot.@@N@@.Jvm.D
/-! MADE BY PROGRAM (witnessworld.py) out of the Statement's table words and the real class files: 9 classes; the members and pool entries that the words name. The judged class is class 1, her method 2. -/
namespace start1
open Jvm.ClassFile
def u (s : String) : CpInfo := .utf8 (stringToUtf16 s)
/-- a pool by its gaps: so many unusable entries, then the entry; so many at the end -/
def gap : Nat → List CpInfo → List CpInfo
  | 0, r => r
  | n + 1, r => .unusable :: gap n r
def poolList (es : List (Nat × CpInfo)) (last : Nat) : List CpInfo := es.foldr (fun e r => gap e.1 (e.2 :: r)) (gap last [])
def pool (es : List (Nat × CpInfo)) (last : Nat) : Array CpInfo := ⟨poolList es last⟩
def fileOf (pool : Array CpInfo) (this : Nat) (attrs : Array Attribute := #[]) (ms : Array MethodInfo := #[]) (fl : Nat := 33) (sup : Nat := 0) (ifs : Array Nat := #[]) (fds : Array FieldInfo := #[]) : ClassFile where
  minorVersion := 0
  majorVersion := 65
  constantPool := pool
  accessFlags := fl
  thisClass := this
  superClass := sup
  interfaces := ifs
  fields := fds
  methods := ms
  attributes := attrs
def plain (name : String) (sup : Option ClassId) : Class where
  name := name
  kind := .ordinary
  loader := none
  accessFlags := 33
  super := sup
  interfaces := #[]
  cf := none
  fields := #[]
  methods := #[]
  instanceTypes := #[]
  staticTypes := #[]
  resolved := #[]
  callSites := []
  init := .initialized
  statics := none
  mirror := none

def pool0 : Array CpInfo := pool [(5, u "<init>"), (0, u "()V"), (1, .class_ 10), (1, u "java/lang/Object")] 113

def k0m0 : Method := { name := "<init>", desc := "()V", sig := { parameters := [], returnType := none }, accessFlags := 1, code := none }
/-- java/lang/Object -/
def k0 : Class := { plain "java/lang/Object" none with
  accessFlags := 33
  interfaces := #[]
  cf := some (fileOf pool0 8 #[] #[{ accessFlags := 1, nameIndex := 5, descriptorIndex := 6, attributes := #[] }] 33 0 #[] #[])
  fields := #[]
  methods := #[k0m0]
  instanceTypes := #[]
  staticTypes := #[]
  resolved := Array.replicate 124 none
  statics := none }

def pool1 : Array CpInfo := pool [(2, .class_ 4), (1, u "java/lang/Object"), (0, u "<init>"), (0, u "()V"), (0, .methodref 8 9), (0, .class_ 10), (0, .nameAndType 11 12), (0, u "com/example/erewash/erewash/RobotsTxtParserNamesEveryonePinLaw"), (0, u "draw"), (0, u "(I)B"), (0, .integer 2147483647), (0, .methodref 15 16), (0, .class_ 17), (0, .nameAndType 18 19), (0, u "com/example/erewash/erewash/RobotsTxtParser"), (0, u "namesEveryone"), (0, u "([BII)Z"), (3, u "law"), (0, u "(IIIII)Z")] 4

def k1m0 : Method := { name := "<init>", desc := "()V", sig := { parameters := [], returnType := none }, accessFlags := 2, code := none }
def k1c1 : Code := { maxStack := 2, maxLocals := 1, code := method_2_code, exceptionTable := #[], attributes := #[] }
def k1m1 : Method := { name := "draw", desc := "(I)B", sig := { parameters := [.int], returnType := some .byte }, accessFlags := 10, code := some k1c1 }
def k1c2 : Code := { maxStack := 3, maxLocals := 11, code := code, exceptionTable := #[], attributes := #[] }
def k1m2 : Method := { name := "law", desc := "(IIIII)Z", sig := { parameters := [.int, .int, .int, .int, .int], returnType := some .boolean }, accessFlags := 9, code := some k1c2 }
/-- com/example/erewash/erewash/RobotsTxtParserNamesEveryonePinLaw -/
def k1 : Class := { plain "com/example/erewash/erewash/RobotsTxtParserNamesEveryonePinLaw" (some 0) with
  accessFlags := 49
  interfaces := #[]
  cf := some (fileOf pool1 8 #[] #[{ accessFlags := 2, nameIndex := 5, descriptorIndex := 6, attributes := #[] }, { accessFlags := 10, nameIndex := 11, descriptorIndex := 12, attributes := #[] }, { accessFlags := 9, nameIndex := 23, descriptorIndex := 24, attributes := #[] }] 49 2 #[] #[])
  fields := #[]
  methods := #[k1m0, k1m1, k1m2]
  instanceTypes := #[]
  staticTypes := #[]
  resolved := Array.replicate 29 none
  statics := none }

def pool2 : Array CpInfo := pool [(2, .class_ 4), (1, u "java/lang/Object"), (0, u "<init>"), (0, u "()V"), (1, .class_ 10), (1, u "com/example/erewash/erewash/RobotsTxtParser"), (22, u "BYTE_ORDER_MARK"), (0, u "[B"), (9, .class_ 46), (1, u "com/example/erewash/erewash/RobotsTxtParser$LineHandler"), (80, u "namesEveryone"), (0, u "([BII)Z")] 6

def k2m0 : Method := { name := "<init>", desc := "()V", sig := { parameters := [], returnType := none }, accessFlags := 2, code := none }
def k2c1 : Code := { maxStack := 2, maxLocals := 3, code := prog_15_method_11_code, exceptionTable := #[], attributes := #[] }
def k2m1 : Method := { name := "namesEveryone", desc := "([BII)Z", sig := { parameters := [(.array .byte), .int, .int], returnType := some .boolean }, accessFlags := 8, code := some k2c1 }
/-- com/example/erewash/erewash/RobotsTxtParser -/
def k2 : Class := { plain "com/example/erewash/erewash/RobotsTxtParser" (some 0) with
  accessFlags := 48
  interfaces := #[]
  cf := some (fileOf pool2 8 #[.nestMembers #[44]] #[{ accessFlags := 2, nameIndex := 5, descriptorIndex := 6, attributes := #[] }, { accessFlags := 8, nameIndex := 127, descriptorIndex := 128, attributes := #[] }] 48 2 #[] #[{ accessFlags := 26, nameIndex := 33, descriptorIndex := 34, attributes := #[] }])
  fields := #[{ name := "BYTE_ORDER_MARK", type := (.array .byte), accessFlags := 26, slot := 0, constantValue := 0 }]
  methods := #[k2m0, k2m1]
  instanceTypes := #[]
  staticTypes := #[(.array .byte)]
  resolved := Array.replicate 135 none
  statics := none }

def pool3 : Array CpInfo := pool [(1, u "java/lang/Cloneable"), (0, .class_ 1), (0, u "java/lang/Object"), (0, .class_ 3)] 3

/-- java/lang/Cloneable -/
def k3 : Class := { plain "java/lang/Cloneable" (some 0) with
  accessFlags := 1537
  interfaces := #[]
  cf := some (fileOf pool3 2 #[] #[] 1537 4 #[] #[])
  fields := #[]
  methods := #[]
  instanceTypes := #[]
  staticTypes := #[]
  resolved := Array.replicate 8 none
  statics := none }

def pool4 : Array CpInfo := pool [(1, u "java/io/Serializable"), (0, .class_ 1), (0, u "java/lang/Object"), (0, .class_ 3)] 3

/-- java/io/Serializable -/
def k4 : Class := { plain "java/io/Serializable" (some 0) with
  accessFlags := 1537
  interfaces := #[]
  cf := some (fileOf pool4 2 #[] #[] 1537 4 #[] #[])
  fields := #[]
  methods := #[]
  instanceTypes := #[]
  staticTypes := #[]
  resolved := Array.replicate 8 none
  statics := none }

/-- the primitive byte -/
def k5 : Class := { plain "byte" none with kind := .primitive 'B', accessFlags := 0x411 }
/-- [B -/
def k6 : Class := { plain "[B" (some 0) with kind := .array 5 .byte, interfaces := #[3, 4], accessFlags := 1041 }

/-- the primitive int -/
def k7 : Class := { plain "int" none with kind := .primitive 'I', accessFlags := 0x411 }
/-- [I -/
def k8 : Class := { plain "[I" (some 0) with kind := .array 7 .int, interfaces := #[3, 4], accessFlags := 1041 }

def heap : Heap := #[]
def classes : Array Class := #[k0, k1, k2, k3, k4, k5, k6, k7, k8]
def interned : List (Array UInt16 × Addr) := []
def slotsUsed : Nat := 0
def theMethod : MethodId := ⟨1, 2⟩
def args0 : Array Value := #[.int 65, .int 2, .int 3, .int 4, .int 5]
def aboutOver (below : List Frame) : State where
  vm := { classes := classes, interned := interned.toArray }
  heap := heap
  slotsUsed := slotsUsed
  threads := #[{ frames := .invoking theMethod args0 :: below }]
def below0 : List Frame := [.native { method := ⟨0, 0⟩, args := #[] }]
def about1 : State := aboutOver below0
def p0 : Program := .bare "" "" ""
def e0 : Env := launch0.env 0 0 0
theorem w_frames : about1.frames = Frame.invoking theMethod args0 :: below0 := rfl
set_option maxRecDepth 65536 in
theorem w_args : argsFit about1.vm theMethod args0 = true := by decide +kernel
set_option maxRecDepth 65536 in
theorem w_heap : heapFits about1 = true := by decide +kernel
set_option maxRecDepth 65536 in
theorem w_runnable : about1.curStatus? = some .runnable := by decide +kernel
set_option maxRecDepth 65536 in
theorem w_alone : about1.alone = true := by decide +kernel
set_option maxRecDepth 65536 in
theorem w_named : about1.methodNamed? x = some theMethod := by decide +kernel
set_option maxRecDepth 65536 in
theorem w_hears : about1.hears theMethod below0 = true := by decide +kernel
set_option maxRecDepth 65536 in
theorem w_ripe : about1.ripe theMethod args0 below0 = true := by decide +kernel
theorem w_running : about1.status = .running := rfl
set_option maxRecDepth 65536 in
theorem w_room : about1.hasRoom e0.platform room_1 = true :=
  launch0.hasRoom_least _ room_1 (by decide +kernel) (by decide +kernel) (by decide +kernel) (by decide +kernel) (by decide +kernel) (by decide +kernel)
theorem allAtoms_all (ts : List Jvm.Cond) (a : Array Jvm.Value) (st : Jvm.State) : (allAtoms ts).before a st = ts.all (fun c => c.before a st) := by
  induction ts with
  | nil => rfl
  | cons c t ih =>
    show (Jvm.Cond.and c (allAtoms t)).before a st = _
    rw [Jvm.Cond.before_and, ih, List.all_cons]
def words1 : List Jvm.Cond := Jvm.Cond.code x code maxLocals ret :: tables_1
/-- a 'code' word, met by the world's own term for the bytes: nothing is compared byte by byte -/
theorem code_word {y : MethodName} {bytes : ByteArray} {mx : Nat} {rt : Option FieldType} {a : Array Value} {s : State} {m : MethodId} {meth : Method} {c : Code} (h1 : s.methodNamed? y = some m) (h2 : s.vm.method? m = some meth) (h3 : meth.code = some c) (h4 : c.code = bytes)
    (h5 : (c.maxLocals == mx && c.exceptionTable.isEmpty && decide (c.maxStack ≤ mostOperands) && decide (meth.sig.returnType = rt) && !meth.locks && decide (parseMethodDescriptor y.desc = some meth.sig)) = true) : (Jvm.Cond.code y bytes mx rt).before a s = true := by
  simp only [Bool.and_eq_true, beq_iff_eq, Bool.not_eq_true', decide_eq_true_eq] at h5
  obtain ⟨⟨⟨⟨⟨g1, g2⟩, g3⟩, g4⟩, g5⟩, g6⟩ := h5
  simp [Cond.before, Cond.holds, Cond.value, h1, h2, h3, h4, g1, g2, g3, g4, g5, g6]
def isCode : Jvm.Cond → Bool
  | .code _ _ _ _ => true
  | _ => false
theorem all_split {L : List Jvm.Cond} {P : Jvm.Cond → Bool} (h1 : L.all (fun c => isCode c || P c) = true) (h2 : ∀ c ∈ L.filter isCode, P c = true) : L.all P = true := by
  refine List.all_eq_true.mpr fun c hc => ?_
  have h := List.all_eq_true.mp h1 c hc
  rcases Bool.eq_false_or_eq_true (isCode c) with hi | hi
  · exact h2 c (List.mem_filter.mpr ⟨hc, hi⟩)
  · simpa [hi] using h
set_option maxRecDepth 65536 in
theorem w_c0 : (Jvm.Cond.code x code maxLocals ret).before args0 about1 = true := code_word (m := ⟨1, 2⟩) (meth := k1m2) (c := k1c2) (by decide +kernel) rfl rfl rfl (by decide +kernel)
set_option maxRecDepth 65536 in
theorem w_c1 : (Jvm.Cond.code ({ cls := "com/example/erewash/erewash/RobotsTxtParserNamesEveryonePinLaw", name := "draw", desc := "(I)B" } : Jvm.MethodName) method_2_code (1 : Nat) (Option.some Jvm.ClassFile.FieldType.byte)).before args0 about1 = true := code_word (m := ⟨1, 1⟩) (meth := k1m1) (c := k1c1) (by decide +kernel) rfl rfl rfl (by decide +kernel)
set_option maxRecDepth 65536 in
theorem w_c2 : (Jvm.Cond.code ({ cls := "com/example/erewash/erewash/RobotsTxtParser", name := "namesEveryone", desc := "([BII)Z" } : Jvm.MethodName) prog_15_method_11_code (3 : Nat) (Option.some Jvm.ClassFile.FieldType.boolean)).before args0 about1 = true := code_word (m := ⟨2, 1⟩) (meth := k2m1) (c := k2c1) (by decide +kernel) rfl rfl rfl (by decide +kernel)
def codes1 : List Jvm.Cond := [Jvm.Cond.code x code maxLocals ret, Jvm.Cond.code ({ cls := "com/example/erewash/erewash/RobotsTxtParserNamesEveryonePinLaw", name := "draw", desc := "(I)B" } : Jvm.MethodName) method_2_code (1 : Nat) (Option.some Jvm.ClassFile.FieldType.byte), Jvm.Cond.code ({ cls := "com/example/erewash/erewash/RobotsTxtParser", name := "namesEveryone", desc := "([BII)Z" } : Jvm.MethodName) prog_15_method_11_code (3 : Nat) (Option.some Jvm.ClassFile.FieldType.boolean)]
set_option maxRecDepth 65536 in
theorem codes_eq : words1.filter isCode = codes1 := rfl
theorem w_codes : ∀ c ∈ words1.filter isCode, c.before args0 about1 = true := by
  rw [codes_eq]
  intro c hc
  simp only [codes1, List.mem_cons, List.not_mem_nil, or_false] at hc
  rcases hc with rfl | rfl | rfl
  · exact w_c0
  · exact w_c1
  · exact w_c2
set_option maxRecDepth 65536 in
theorem w_t1 : words1.all (fun c => isCode c || c.before args0 about1) = true := by decide +kernel
theorem w_tables : (allAtoms (Jvm.Cond.code x code maxLocals ret :: tables_1)).before args0 about1 = true := by
  rw [allAtoms_all]
  show words1.all (fun c => c.before args0 about1) = true
  refine all_split ?_ w_codes
  rw [w_t1]
set_option maxRecDepth 65536 in
theorem w_case : (Jvm.Cond.and given_1 narrow_1).before args0 about1 = true := by decide +kernel
theorem w_applies : (headSpec (Jvm.Cond.code x code maxLocals ret :: tables_1) room_1).applies x e0.platform about1 = true :=
  (Spec.applies_iff w_frames).mpr ⟨w_running, w_runnable, w_alone, w_named, w_hears, w_ripe, w_room, w_tables⟩
theorem atStart : AtStart classFile x code maxLocals ret World_1 tables_1 room_1 Calls_1 rest_1 Pre_1 launch0 p0 e0 about1 theMethod args0 below0 :=
  ⟨lists_1, trivial, launch0.admits_env _ _ _, launch0.least_env, fairChoices_fair.cas, fairChoices_fair.clock, w_frames, w_args, w_heap, w_applies, trivial, trivial, w_case⟩
end start1
theorem witness_1 : WitnessClaimed_1 := ⟨start1.p0, start1.e0, start1.about1, start1.theMethod, start1.args0, start1.below0, start1.atStart⟩
end Jvm.Pilot.@@N@@
