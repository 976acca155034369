import JvmDerived
import JvmDerived.Pilot.@@N@@Statement
import JvmDerived.Pilot.@@N@@Code
set_option linter.unusedVariables false
set_option linter.unusedSimpArgs false
namespace Jvm.RoadKit
open Sem ClassFile Op Lib Jvm.Stand Jvm.Free Jvm.LawKit
def IAr (Z : State) (h : Heap) (a : Addr) (ty : FieldType) (n : Int32) (f : Nat → Int32) : Prop := ∃ c : Cell, Arr Z h a c ty ∧ c.slots.size = n.toNatClampNeg ∧ ¬ n < 0 ∧ ∀ i, i < c.slots.size → c.slots[i]? = some (.int (f i))
def ownU (f : Nat → Int32) (j : Nat) (v : Int32) : Nat → Int32 := fun i => if i = j then v else f i
section
variable {Z : State} {h h' : Heap} {a b : Addr} {ty : FieldType} {n : Int32} {f : Nat → Int32} {sl : Nat} {v : Value} {ws : List Addr}
theorem IAr.lt (F : IAr Z h a ty n f) : a < h.size := by obtain ⟨c, A, -⟩ := F; exact A.lt
theorem IAr.ext (F : IAr Z h a ty n f) (E : Ext h h') : IAr Z h' a ty n f := by obtain ⟨c, A, r⟩ := F; exact ⟨c, A.ext E, r⟩
theorem IAr.other (F : IAr Z h b ty n f) (W : Wr h h' a sl v) (q : b ≠ a) : IAr Z h' b ty n f := by obtain ⟨c, A, r⟩ := F; exact ⟨c, A.other W q, r⟩
theorem IAr.keep (F : IAr Z h a ty n f) (K : Keep h h' ws) (q : a ∉ ws) : IAr Z h' a ty n f := by obtain ⟨c, A, r⟩ := F; exact ⟨c, ⟨K.2.1 a c A.1 q, A.2⟩, r⟩
theorem IAr.nn (F : IAr Z h a ty n f) : ¬ n < 0 := by obtain ⟨c, A, S, q, r⟩ := F; exact q
theorem IAr.new {k : ClassId} {z : Int32} (A : Arr Z h a (newA k ty z) ty) (q : ¬ z < 0) (hd : defaultValue ty = .int 0) : IAr Z h a ty z (fun _ => 0) := by
  obtain ⟨c, A', -, S, q', H, -⟩ := Arv.new A q
  exact ⟨c, A', S, q', fun i hi => by have h1 := H i hi; rw [hd] at h1; simpa using h1⟩
theorem IAr.set {j : Nat} {x : Int32} (F : IAr Z h a ty n f) (W : Wr h h' a j (.int x)) : IAr Z h' a ty n (ownU f j x) := by
  obtain ⟨c, A, S, q, H⟩ := F
  refine ⟨c.setSlot j (.int x), A.same W, ?_, q, fun i hi => ?_⟩
  · simpa [Cell.setSlot] using S
  · have hi' : i < c.slots.size := by simpa [Cell.setSlot] using hi
    show (c.slots.setIfInBounds j (.int x))[i]? = some (.int (if i = j then x else f i))
    by_cases e : i = j
    · subst e
      rw [if_pos rfl, Array.getElem?_setIfInBounds_self_of_lt hi']
    · rw [if_neg e, Array.getElem?_setIfInBounds_ne (Ne.symm e)]
      exact H i hi'
end
section New
variable {p : Program} {l : Launch} {e : Env} {R : Room} {s : State} {m : MethodId} {args : Array Value} {below : List Frame} {meth : Method} {c : Code} {T : State} {locs : List Loc} {cells slots : Nat}
theorem retI (X : Stand p l e R s m args below meth c T locs cells slots) (hx : p.tables.exec = Jvm.exec) {pc : Nat} {Ls : Array Slot} {z : Int32} {rest : List Value} (hret : meth.sig.returnType = some .int) (hd : decode c.code pc = .ok (.ireturn, 1)) {fs : List Frame}
    (hl : ∀ (f : JFrame) (acts : List Action), f.method = m → f.locked = none → f.entered = [] → (doReturn e (T.setTop f) acts (some (.int z))).1 = T.setFrames fs) : Steps p.tables e below (T.setTop (mkF m pc Ls (.int z :: rest))) (T.setFrames fs) := by
  have hm' : T.vm.method? m = some meth := X.method'
  have hn : narrow .int (.int z) = .int z := rfl
  show Steps p.tables e below (T.setTop { method := m, pc := pc, locals := Ls, stack := _ :: rest, locked := none }) _
  jvm_step X.here [X.here.top, hx, hd, hm', hret, hn]
  first | (intro acts; rw [hl _ acts rfl rfl rfl]) | rw [hl _ _ rfl rfl rfl]
  exact Steps.refl _
theorem ldB {Z : State} {h : Heap} (X : Stand p l e R s m args below meth c T locs cells slots) (hx : p.tables.exec = Jvm.exec) (hZ : Z.Warmed39 s.vm) (eT : T.heap = h) {a : Addr} {n : Int32} {f : Nat → Int32} (F : IAr Z h a .byte n f) {j : Int32} (hj : ¬ j < 0 ∧ j < n) {g : JFrame} (hg : g.method = m) {rest : List Value} (hs : g.stack = .int j :: .ref a :: rest) (hd : decode c.code g.pc = .ok (.baload, 1)) {target : State}
    (hr : Steps p.tables e below (T.setTop { g with pc := g.pc + 1, stack := .int (f j.toNatClampNeg) :: rest }) target) : Steps p.tables e below (T.setTop g) target := by
  obtain ⟨cl, A, S, q, H⟩ := F
  exact X.baloadBytes hx (by rw [eT]; exact A.1) (State.isArrayOf_alike hZ.alike A.2.1) A.2.2 (inb_of S hj) (H _ (Nat.lt_of_not_le fun y => inb_of S hj (Or.inr y))) hg hs hd _ hr
theorem sB {Z : State} {h : Heap} (X : Stand p l e R s m args below meth c T locs cells slots) (hx : p.tables.exec = Jvm.exec) (hZ : Z.Warmed39 s.vm) (eT : T.heap = h) {a : Addr} {n : Int32} {f : Nat → Int32} (F : IAr Z h a .byte n f) {j : Int32} {x : Int32} (hj : ¬ j < 0 ∧ j < n) {g : JFrame} (hg : g.method = m) {rest : List Value} (hs : g.stack = .int x :: .int j :: .ref a :: rest) (hd : decode c.code g.pc = .ok (.bastore, 1)) :
    ∃ T' h', Stand p l e R s m args below meth c T' (locs ++ [⟨a, j.toNatClampNeg⟩]) cells slots ∧ T'.heap = h' ∧ Wr h h' a j.toNatClampNeg (.int (nar .byte x)) ∧ IAr Z h' a .byte n (ownU f j.toNatClampNeg (nar .byte x)) ∧ ∀ target, Steps p.tables e below (T'.setTop { g with pc := g.pc + 1, stack := rest }) target → Steps p.tables e below (T.setTop g) target := by
  have F' := F
  obtain ⟨cl, A, S, q, H⟩ := F
  obtain ⟨T', h', X', e', W', st'⟩ := stB X hx hZ eT A (inb_of S hj) hg hs hd
  exact ⟨T', h', X', e', W', F'.set W', st'⟩
theorem alen {Z : State} {h : Heap} (X : Stand p l e R s m args below meth c T locs cells slots) (hx : p.tables.exec = Jvm.exec) (hZ : Z.Warmed39 s.vm) (eT : T.heap = h) {a : Addr} {ty : FieldType} {n : Int32} {f : Nat → Int32} (F : IAr Z h a ty n f) {g : JFrame} (hg : g.method = m) {rest : List Value} (hs : g.stack = .ref a :: rest) (hd : decode c.code g.pc = .ok (.arraylength, 1)) {target : State}
    (hr : Steps p.tables e below (T.setTop { g with pc := g.pc + 1, stack := .int n :: rest }) target) : Steps p.tables e below (T.setTop g) target := by
  obtain ⟨cl, A, S, q, H⟩ := F
  refine X.arraylength hx (by rw [eT]; exact A.1) (State.isArrayOf_alike hZ.alike A.2.1) hg hs hd _ ?_
  rw [len_of S q]
  exact hr
end New
end Jvm.RoadKit
namespace Jvm.Pilot.@@N@@
open Jvm Jvm.ClassFile Sem Op Lib Jvm.Free Jvm.Stand Jvm.LawKit Jvm.RoadKit Bundle Jvm.Pilot.@@N@@.Jvm.D
theorem own_rem (x y : Int32) : x - (x / y) * y = x % y := by
  apply Int32.toInt_inj.mp
  have h1 := Int32.le_toInt (x % y)
  have h2 := Int32.toInt_lt (x % y)
  rw [Int32.toInt_sub, Int32.toInt_mul, Int32.toInt_div, Int.bmod_mul_bmod, Int.sub_bmod_bmod, Int.mul_comm (x.toInt.tdiv y.toInt), ← Int.tmod_def, ← Int32.toInt_mod]
  exact Int.bmod_eq_of_le_mul_two (by omega) (by omega)
theorem own_nat (x : Int32) : (x.toBitVec.toNat : Int) = x.toInt % 4294967296 := by
  have h := x.toBitVec.isLt
  show _ = x.toBitVec.toInt % 4294967296
  rw [BitVec.toInt_eq_toNat_cond]; split <;> omega
theorem own_mask (x m : Int32) (k : Nat) (hm : m.toBitVec.toNat = 2 ^ k - 1) : (x &&& m).toBitVec.toNat = x.toBitVec.toNat % 2 ^ k := by
  show (x.toBitVec &&& m.toBitVec).toNat = _
  rw [BitVec.toNat_and, hm, Nat.and_two_pow_sub_one_eq_mod]
theorem own_in4 {z j : Int32} (h : ¬ z < 4) (h0 : ¬ j < 0) (h1 : j < 4) : ¬ j < 0 ∧ j < z := by
  simp only [Int32.lt_iff_toInt_lt] at h h0 h1 ⊢
  omega
theorem own_neg (x : Int32) : ¬ (x &&& 7) < 0 := by
  have h := c_mask x 7 3 (by decide) (by decide)
  rw [Int32.lt_iff_toInt_lt, show (0 : Int32).toInt = 0 from rfl]; omega
theorem own_cap (x : Int32) : (x &&& 7).toNatClampNeg ≤ 7 := by
  have h := c_mask x 7 3 (by decide) (by decide)
  show (x &&& 7).toInt.toNat ≤ 7
  omega
theorem pn_0 : plainName "com/example/weaverbird/weaverbird/format/BinaryXmlParserIsBinaryXmlPinLaw" = true := by first | (simp [plainName, overriddenIn]; done) | decide +kernel
theorem d2_0 : decode method_2_code 0 = .ok (.iload_n 0, 1) := by decide +kernel
theorem d2_1 : decode method_2_code 1 = .ok (.iload_n 1, 1) := by decide +kernel
theorem d2_2 : decode method_2_code 2 = .ok (.iushr, 1) := by decide +kernel
theorem d2_3 : decode method_2_code 3 = .ok (.iconst 1, 1) := by decide +kernel
theorem d2_4 : decode method_2_code 4 = .ok (.iand, 1) := by decide +kernel
theorem d2_5 : decode method_2_code 5 = .ok (.ifCond .eq 8, 3) := by decide +kernel
theorem d2_8 : decode method_2_code 8 = .ok (.iload_n 3, 1) := by decide +kernel
theorem d2_9 : decode method_2_code 9 = .ok (.i2b, 1) := by decide +kernel
theorem d2_10 : decode method_2_code 10 = .ok (.goto 10, 3) := by decide +kernel
theorem d2_13 : decode method_2_code 13 = .ok (.iload_n 2, 1) := by decide +kernel
theorem d2_14 : decode method_2_code 14 = .ok (.bipush 8, 2) := by decide +kernel
theorem d2_16 : decode method_2_code 16 = .ok (.iload_n 1, 1) := by decide +kernel
theorem d2_17 : decode method_2_code 17 = .ok (.imul, 1) := by decide +kernel
theorem d2_18 : decode method_2_code 18 = .ok (.iushr, 1) := by decide +kernel
theorem d2_19 : decode method_2_code 19 = .ok (.i2b, 1) := by decide +kernel
theorem d2_20 : decode method_2_code 20 = .ok (.ireturn, 1) := by decide +kernel
theorem ef_2 (m : MethodId) (x0 : Int32) (x1 : Int32) (x2 : Int32) (x3 : Int32) : entryFrame m #[(.int x0), (.int x1), (.int x2), (.int x3)] 4 = mkF m 0 #[.val (.int x0), .val (.int x1), .val (.int x2), .val (.int x3)] [] := by first | (simp [entryFrame, mkF, argsToLocals, Value.category]; done) | rfl
def f2 (p1 : Int32) (p2 : Int32) (p3 : Int32) (p4 : Int32) : Int32 := (if (((p1.toUInt32 >>> (p2 &&& 31).toUInt32).toInt32) &&& (1 : Int32)) = (0 : Int32) then (nar .byte (((p3.toUInt32 >>> (((8 : Int32) * p2) &&& 31).toUInt32).toInt32).toInt8.toInt32)) else (nar .byte (p4.toInt8.toInt32)))
def Q2 (Z : State) (p1 : Int32) (p2 : Int32) (p3 : Int32) (p4 : Int32) (h0 : Heap) (n0 : Nat) (v : Option Value) (h : Heap) (L : List Loc) : Prop := v = some (.int (f2 p1 p2 p3 p4)) ∧ Fr n0 L ∧ h = h0
set_option maxRecDepth 65536 in
set_option maxHeartbeats 40000000 in
theorem rm2 (l : Launch) (Z : State) (a0 : Array Value) (hw : ∀ d ∈ tables_1, d.before a0 Z = true) (ws : List Jvm.Cond) (p1 : Int32) (p2 : Int32) (p3 : Int32) (p4 : Int32) (h0 : Heap) (n0 : Nat) (Z0 : n0 ≤ h0.size) :
    MetFree l (⟨"com/example/weaverbird/weaverbird/format/BinaryXmlParserIsBinaryXmlPinLaw", "pick", "(IIII)B"⟩ : MethodName) (head1 (Jvm.Cond.code (⟨"com/example/weaverbird/weaverbird/format/BinaryXmlParserIsBinaryXmlPinLaw", "pick", "(IIII)B"⟩ : MethodName) method_2_code 4 (some .byte) :: ws) ({ frames := 0, cells := 0, slots := 0, locals := 0 } : Room)) (fun a U => a = #[(.int p1), (.int p2), (.int p3), (.int p4)] ∧ Z.Warmed39 U.vm ∧ U.heap = h0) (fun _ _ _ _ _ => True) (fun _ U o U' => ∃ v L, o = .returned v ∧ Q2 Z p1 p2 p3 p4 h0 n0 v U'.heap L ∧ FrameEnd U o U' L ({ frames := 0, cells := 0, slots := 0, locals := 0 } : Room).cells ({ frames := 0, cells := 0, slots := 0, locals := 0 } : Room).slots) := by
  refine MetFree.of_bodySF (plainFor_of_name pn_0) hisR ?_
  intro p e s m args below meth c s₁ Bd hml0 hP hK
  obtain ⟨rfl, hZ, hh⟩ := hP
  have hx := Bd.exec
  have hby := Bd.bytes
  have hml : c.maxLocals = 4 := hml0
  have hown : s.vm.findClass "com/example/weaverbird/weaverbird/format/BinaryXmlParserIsBinaryXmlPinLaw" = some m.cls := findClass_of_methodNamed Bd.named
  have hnm := (name_of_methodNamed Bd.named Bd.method).1
  have X0 : Stand p l e ({ frames := 0, cells := 0, slots := 0, locals := 0 } : Room) s m #[(.int p1), (.int p2), (.int p3), (.int p4)] below meth c s₁ [] 0 0 := Stand.of_body Bd
  have e0 : s₁.heap = h0 := by rw [← hh, Bd.state]; rfl
  have N0 := Fr.nil n0
  have pre0 : ∀ t, Steps p.tables e below (s₁.setTop (mkF m 0 #[.val (.int p1), .val (.int p2), .val (.int p3), .val (.int p4)] [])) t → Steps p.tables e below (s₁.setTop (entryFrame m #[(.int p1), (.int p2), (.int p3), (.int p4)] 4)) t := fun t k => castTop (ef_2 m p1 p2 p3 p4) k
  have pre1 : ∀ t, Steps p.tables e below (s₁.setTop (mkF m 5 #[.val (.int p1), .val (.int p2), .val (.int p3), .val (.int p4)] [(.int (((p1.toUInt32 >>> (p2 &&& 31).toUInt32).toInt32) &&& (1 : Int32)))])) t → Steps p.tables e below (s₁.setTop (entryFrame m #[(.int p1), (.int p2), (.int p3), (.int p4)] 4)) t := by
    intro t k
    refine pre0 t ?_
    show Steps p.tables e below (s₁.setTop (mkF m 0 #[.val (.int p1), .val (.int p2), .val (.int p3), .val (.int p4)] [])) _
    refine XS.iloadN X0.here hx rfl (hb hby d2_0) rfl ?_
    show Steps p.tables e below (s₁.setTop (mkF m 1 #[.val (.int p1), .val (.int p2), .val (.int p3), .val (.int p4)] [(.int p1)])) _
    refine XS.iloadN X0.here hx rfl (hb hby d2_1) rfl ?_
    show Steps p.tables e below (s₁.setTop (mkF m 2 #[.val (.int p1), .val (.int p2), .val (.int p3), .val (.int p4)] [(.int p2), (.int p1)])) _
    refine XS.iushr X0.here hx rfl (hb hby d2_2) rfl ?_
    show Steps p.tables e below (s₁.setTop (mkF m 3 #[.val (.int p1), .val (.int p2), .val (.int p3), .val (.int p4)] [(.int ((p1.toUInt32 >>> (p2 &&& 31).toUInt32).toInt32))])) _
    refine XS.iconst X0.here hx rfl (hb hby d2_3) ?_
    show Steps p.tables e below (s₁.setTop (mkF m 4 #[.val (.int p1), .val (.int p2), .val (.int p3), .val (.int p4)] [(.int (1 : Int32)), (.int ((p1.toUInt32 >>> (p2 &&& 31).toUInt32).toInt32))])) _
    refine XS.iand X0.here hx rfl (hb hby d2_4) rfl ?_
    exact k
  by_cases hc5 : (((p1.toUInt32 >>> (p2 &&& 31).toUInt32).toInt32) &&& (1 : Int32)) = (0 : Int32)
  · have eq2 : (f2 p1 p2 p3 p4) = (nar .byte (((p3.toUInt32 >>> (((8 : Int32) * p2) &&& 31).toUInt32).toInt32).toInt8.toInt32)) := by unfold f2; simp only [if_pos hc5]
    obtain ⟨fs, hr, hrun, hended, hW, hsame⟩ := X0.leave (v := some (.int (nar .byte (((p3.toUInt32 >>> (((8 : Int32) * p2) &&& 31).toUInt32).toInt32).toInt8.toInt32)))) (fun h => by rw [Bd.returns] at h; cases h)
    refine ⟨_, _, pre1 _ ?_, hrun, hended, _, _, rfl, ?_, ⟨_, rfl⟩, hW, hsame.mono (by decide) (by decide)⟩
    · show Steps p.tables e below (s₁.setTop (mkF m 5 #[.val (.int p1), .val (.int p2), .val (.int p3), .val (.int p4)] [(.int (((p1.toUInt32 >>> (p2 &&& 31).toUInt32).toInt32) &&& (1 : Int32)))])) _
      refine XS.ifYes X0.here hx rfl (pc0 := 5) (pc' := 13) rfl (hb hby d2_5) rfl ((if0 _ _).trans (teq hc5).1) (by decide) (by decide) ?_
      show Steps p.tables e below (s₁.setTop (mkF m 13 #[.val (.int p1), .val (.int p2), .val (.int p3), .val (.int p4)] [])) _
      refine XS.iloadN X0.here hx rfl (hb hby d2_13) rfl ?_
      show Steps p.tables e below (s₁.setTop (mkF m 14 #[.val (.int p1), .val (.int p2), .val (.int p3), .val (.int p4)] [(.int p3)])) _
      refine XS.bipush X0.here hx rfl (hb hby d2_14) ?_
      show Steps p.tables e below (s₁.setTop (mkF m 16 #[.val (.int p1), .val (.int p2), .val (.int p3), .val (.int p4)] [(.int (8 : Int32)), (.int p3)])) _
      refine XS.iloadN X0.here hx rfl (hb hby d2_16) rfl ?_
      show Steps p.tables e below (s₁.setTop (mkF m 17 #[.val (.int p1), .val (.int p2), .val (.int p3), .val (.int p4)] [(.int p2), (.int (8 : Int32)), (.int p3)])) _
      refine XS.imul X0.here hx rfl (hb hby d2_17) rfl ?_
      show Steps p.tables e below (s₁.setTop (mkF m 18 #[.val (.int p1), .val (.int p2), .val (.int p3), .val (.int p4)] [(.int ((8 : Int32) * p2)), (.int p3)])) _
      refine XS.iushr X0.here hx rfl (hb hby d2_18) rfl ?_
      show Steps p.tables e below (s₁.setTop (mkF m 19 #[.val (.int p1), .val (.int p2), .val (.int p3), .val (.int p4)] [(.int ((p3.toUInt32 >>> (((8 : Int32) * p2) &&& 31).toUInt32).toInt32))])) _
      refine XS.i2b X0.here hx rfl (hb hby d2_19) rfl ?_
      show Steps p.tables e below (s₁.setTop (mkF m 20 #[.val (.int p1), .val (.int p2), .val (.int p3), .val (.int p4)] [(.int (((p3.toUInt32 >>> (((8 : Int32) * p2) &&& 31).toUInt32).toInt32).toInt8.toInt32))])) _
      exact retN X0 hx (t := .byte) Bd.returns (by simp) (hb hby d2_20) hr
    · show Q2 Z p1 p2 p3 p4 h0 n0 _ s₁.heap _
      rw [e0]
      exact ⟨by rw [eq2], N0, rfl⟩
  · have eq3 : (f2 p1 p2 p3 p4) = (nar .byte (p4.toInt8.toInt32)) := by unfold f2; simp only [if_neg hc5]
    obtain ⟨fs, hr, hrun, hended, hW, hsame⟩ := X0.leave (v := some (.int (nar .byte (p4.toInt8.toInt32)))) (fun h => by rw [Bd.returns] at h; cases h)
    refine ⟨_, _, pre1 _ ?_, hrun, hended, _, _, rfl, ?_, ⟨_, rfl⟩, hW, hsame.mono (by decide) (by decide)⟩
    · show Steps p.tables e below (s₁.setTop (mkF m 5 #[.val (.int p1), .val (.int p2), .val (.int p3), .val (.int p4)] [(.int (((p1.toUInt32 >>> (p2 &&& 31).toUInt32).toInt32) &&& (1 : Int32)))])) _
      refine XS.ifNo X0.here hx rfl (hb hby d2_5) rfl ((if0 _ _).trans (feq hc5).1) ?_
      show Steps p.tables e below (s₁.setTop (mkF m 8 #[.val (.int p1), .val (.int p2), .val (.int p3), .val (.int p4)] [])) _
      refine XS.iloadN X0.here hx rfl (hb hby d2_8) rfl ?_
      show Steps p.tables e below (s₁.setTop (mkF m 9 #[.val (.int p1), .val (.int p2), .val (.int p3), .val (.int p4)] [(.int p4)])) _
      refine XS.i2b X0.here hx rfl (hb hby d2_9) rfl ?_
      show Steps p.tables e below (s₁.setTop (mkF m 10 #[.val (.int p1), .val (.int p2), .val (.int p3), .val (.int p4)] [(.int (p4.toInt8.toInt32))])) _
      refine XS.goto X0.here hx rfl (pc0 := 10) (pc' := 20) rfl (hb hby d2_10) (by decide) (by decide) ?_
      show Steps p.tables e below (s₁.setTop (mkF m 20 #[.val (.int p1), .val (.int p2), .val (.int p3), .val (.int p4)] [(.int (p4.toInt8.toInt32))])) _
      exact retN X0 hx (t := .byte) Bd.returns (by simp) (hb hby d2_20) hr
    · show Q2 Z p1 p2 p3 p4 h0 n0 _ s₁.heap _
      rw [e0]
      exact ⟨by rw [eq3], N0, rfl⟩
theorem pn_1 : plainName "com/example/weaverbird/weaverbird/format/BinaryXmlParser" = true := by first | (simp [plainName, overriddenIn]; done) | decide +kernel
theorem d1_0 : decode prog_36_method_2_code 0 = .ok (.aload_n 0, 1) := by decide +kernel
theorem d1_1 : decode prog_36_method_2_code 1 = .ok (.arraylength, 1) := by decide +kernel
theorem d1_2 : decode prog_36_method_2_code 2 = .ok (.iconst 4, 1) := by decide +kernel
theorem d1_3 : decode prog_36_method_2_code 3 = .ok (.if_icmp .lt 34, 3) := by decide +kernel
theorem d1_6 : decode prog_36_method_2_code 6 = .ok (.aload_n 0, 1) := by decide +kernel
theorem d1_7 : decode prog_36_method_2_code 7 = .ok (.iconst 0, 1) := by decide +kernel
theorem d1_8 : decode prog_36_method_2_code 8 = .ok (.baload, 1) := by decide +kernel
theorem d1_9 : decode prog_36_method_2_code 9 = .ok (.iconst 3, 1) := by decide +kernel
theorem d1_10 : decode prog_36_method_2_code 10 = .ok (.if_icmp .ne 27, 3) := by decide +kernel
theorem d1_13 : decode prog_36_method_2_code 13 = .ok (.aload_n 0, 1) := by decide +kernel
theorem d1_14 : decode prog_36_method_2_code 14 = .ok (.iconst 1, 1) := by decide +kernel
theorem d1_15 : decode prog_36_method_2_code 15 = .ok (.baload, 1) := by decide +kernel
theorem d1_16 : decode prog_36_method_2_code 16 = .ok (.ifCond .ne 21, 3) := by decide +kernel
theorem d1_19 : decode prog_36_method_2_code 19 = .ok (.aload_n 0, 1) := by decide +kernel
theorem d1_20 : decode prog_36_method_2_code 20 = .ok (.iconst 2, 1) := by decide +kernel
theorem d1_21 : decode prog_36_method_2_code 21 = .ok (.baload, 1) := by decide +kernel
theorem d1_22 : decode prog_36_method_2_code 22 = .ok (.bipush 8, 2) := by decide +kernel
theorem d1_24 : decode prog_36_method_2_code 24 = .ok (.if_icmp .ne 13, 3) := by decide +kernel
theorem d1_27 : decode prog_36_method_2_code 27 = .ok (.aload_n 0, 1) := by decide +kernel
theorem d1_28 : decode prog_36_method_2_code 28 = .ok (.iconst 3, 1) := by decide +kernel
theorem d1_29 : decode prog_36_method_2_code 29 = .ok (.baload, 1) := by decide +kernel
theorem d1_30 : decode prog_36_method_2_code 30 = .ok (.ifCond .ne 7, 3) := by decide +kernel
theorem d1_33 : decode prog_36_method_2_code 33 = .ok (.iconst 1, 1) := by decide +kernel
theorem d1_34 : decode prog_36_method_2_code 34 = .ok (.goto 4, 3) := by decide +kernel
theorem d1_37 : decode prog_36_method_2_code 37 = .ok (.iconst 0, 1) := by decide +kernel
theorem d1_38 : decode prog_36_method_2_code 38 = .ok (.ireturn, 1) := by decide +kernel
theorem ef_1 (m : MethodId) (x0 : Addr) : entryFrame m #[(.ref x0)] 1 = mkF m 0 #[.val (.ref x0)] [] := by first | (simp [entryFrame, mkF, argsToLocals, Value.category]; done) | rfl
def f1 (z_a1 : Int32) (c_a1 : Nat → Int32) : Int32 := (if z_a1 < (4 : Int32) then (0 : Int32) else (if (c_a1 ((0 : Int32)).toNatClampNeg) = (3 : Int32) then (if (c_a1 ((1 : Int32)).toNatClampNeg) = (0 : Int32) then (if (c_a1 ((2 : Int32)).toNatClampNeg) = (8 : Int32) then (if (c_a1 ((3 : Int32)).toNatClampNeg) = (0 : Int32) then (1 : Int32) else (0 : Int32)) else (0 : Int32)) else (0 : Int32)) else (0 : Int32)))
def Q1 (Z : State) (a1 : Addr) (z_a1 : Int32) (c_a1 : Nat → Int32) (h0 : Heap) (n0 : Nat) (v : Option Value) (h : Heap) (L : List Loc) : Prop := v = some (.int (f1 z_a1 c_a1)) ∧ Fr n0 L ∧ h = h0
set_option maxRecDepth 65536 in
set_option maxHeartbeats 40000000 in
theorem rm1 (l : Launch) (Z : State) (a0 : Array Value) (hw : ∀ d ∈ tables_1, d.before a0 Z = true) (ws : List Jvm.Cond) (a1 : Addr) (z_a1 : Int32) (c_a1 : Nat → Int32) (h0 : Heap) (n0 : Nat) (Z0 : n0 ≤ h0.size) (V_a1 : IAr Z h0 a1 .byte z_a1 c_a1) :
    MetFree l (⟨"com/example/weaverbird/weaverbird/format/BinaryXmlParser", "isBinaryXml", "([B)Z"⟩ : MethodName) (head1 (Jvm.Cond.code (⟨"com/example/weaverbird/weaverbird/format/BinaryXmlParser", "isBinaryXml", "([B)Z"⟩ : MethodName) prog_36_method_2_code 1 (some .boolean) :: ws) ({ frames := 0, cells := 0, slots := 0, locals := 0 } : Room)) (fun a U => a = #[(.ref a1)] ∧ Z.Warmed39 U.vm ∧ U.heap = h0) (fun _ _ _ _ _ => True) (fun _ U o U' => ∃ v L, o = .returned v ∧ Q1 Z a1 z_a1 c_a1 h0 n0 v U'.heap L ∧ FrameEnd U o U' L ({ frames := 0, cells := 0, slots := 0, locals := 0 } : Room).cells ({ frames := 0, cells := 0, slots := 0, locals := 0 } : Room).slots) := by
  refine MetFree.of_bodySF (plainFor_of_name pn_1) hisR ?_
  intro p e s m args below meth c s₁ Bd hml0 hP hK
  obtain ⟨rfl, hZ, hh⟩ := hP
  have hx := Bd.exec
  have hby := Bd.bytes
  have hml : c.maxLocals = 1 := hml0
  have hown : s.vm.findClass "com/example/weaverbird/weaverbird/format/BinaryXmlParser" = some m.cls := findClass_of_methodNamed Bd.named
  have hnm := (name_of_methodNamed Bd.named Bd.method).1
  have X0 : Stand p l e ({ frames := 0, cells := 0, slots := 0, locals := 0 } : Room) s m #[(.ref a1)] below meth c s₁ [] 0 0 := Stand.of_body Bd
  have e0 : s₁.heap = h0 := by rw [← hh, Bd.state]; rfl
  have N0 := Fr.nil n0
  have pre0 : ∀ t, Steps p.tables e below (s₁.setTop (mkF m 0 #[.val (.ref a1)] [])) t → Steps p.tables e below (s₁.setTop (entryFrame m #[(.ref a1)] 1)) t := fun t k => castTop (ef_1 m a1) k
  have pre1 : ∀ t, Steps p.tables e below (s₁.setTop (mkF m 3 #[.val (.ref a1)] [(.int (4 : Int32)), (.int z_a1)])) t → Steps p.tables e below (s₁.setTop (entryFrame m #[(.ref a1)] 1)) t := by
    intro t k
    refine pre0 t ?_
    show Steps p.tables e below (s₁.setTop (mkF m 0 #[.val (.ref a1)] [])) _
    refine XS.aloadN X0.here hx rfl (hb hby d1_0) rfl rfl ?_
    show Steps p.tables e below (s₁.setTop (mkF m 1 #[.val (.ref a1)] [(.ref a1)])) _
    refine alen X0 hx hZ e0 V_a1 (g := (mkF m 1 #[.val (.ref a1)] [(.ref a1)])) rfl rfl (hb hby d1_1) ?_
    show Steps p.tables e below (s₁.setTop (mkF m 2 #[.val (.ref a1)] [(.int z_a1)])) _
    refine XS.iconst X0.here hx rfl (hb hby d1_2) ?_
    exact k
  by_cases hc3 : z_a1 < (4 : Int32)
  · have eq2 : (f1 z_a1 c_a1) = (0 : Int32) := by unfold f1; simp only [if_pos hc3]
    obtain ⟨fs, hr, hrun, hended, hW, hsame⟩ := X0.leave (v := some (.int (0 : Int32))) (fun h => by rw [Bd.returns] at h; cases h)
    refine ⟨_, _, pre1 _ ?_, hrun, hended, _, _, rfl, ?_, ⟨_, rfl⟩, hW, hsame.mono (by decide) (by decide)⟩
    · show Steps p.tables e below (s₁.setTop (mkF m 3 #[.val (.ref a1)] [(.int (4 : Int32)), (.int z_a1)])) _
      refine XS.icmpYes X0.here hx rfl (pc0 := 3) (pc' := 37) rfl (hb hby d1_3) rfl (tlt hc3).1 (by decide) (by decide) ?_
      show Steps p.tables e below (s₁.setTop (mkF m 37 #[.val (.ref a1)] [])) _
      refine XS.iconst X0.here hx rfl (hb hby d1_37) ?_
      show Steps p.tables e below (s₁.setTop (mkF m 38 #[.val (.ref a1)] [(.int (0 : Int32))])) _
      exact retN X0 hx (t := .boolean) Bd.returns (by simp) (hb hby d1_38) hr
    · show Q1 Z a1 z_a1 c_a1 h0 n0 _ s₁.heap _
      rw [e0]
      exact ⟨by rw [eq2], N0, rfl⟩
  · have pre3 : ∀ t, Steps p.tables e below (s₁.setTop (mkF m 10 #[.val (.ref a1)] [(.int (3 : Int32)), (.int (c_a1 ((0 : Int32)).toNatClampNeg))])) t → Steps p.tables e below (s₁.setTop (entryFrame m #[(.ref a1)] 1)) t := by
      intro t k
      refine pre1 t ?_
      show Steps p.tables e below (s₁.setTop (mkF m 3 #[.val (.ref a1)] [(.int (4 : Int32)), (.int z_a1)])) _
      refine XS.icmpNo X0.here hx rfl (hb hby d1_3) rfl (flt hc3).1 ?_
      show Steps p.tables e below (s₁.setTop (mkF m 6 #[.val (.ref a1)] [])) _
      refine XS.aloadN X0.here hx rfl (hb hby d1_6) rfl rfl ?_
      show Steps p.tables e below (s₁.setTop (mkF m 7 #[.val (.ref a1)] [(.ref a1)])) _
      refine XS.iconst X0.here hx rfl (hb hby d1_7) ?_
      show Steps p.tables e below (s₁.setTop (mkF m 8 #[.val (.ref a1)] [(.int (0 : Int32)), (.ref a1)])) _
      refine ldB X0 hx hZ e0 V_a1 (j := (0 : Int32)) (own_in4 hc3 (by decide) (by decide)) (g := (mkF m 8 #[.val (.ref a1)] [(.int (0 : Int32)), (.ref a1)])) rfl rfl (hb hby d1_8) ?_
      show Steps p.tables e below (s₁.setTop (mkF m 9 #[.val (.ref a1)] [(.int (c_a1 ((0 : Int32)).toNatClampNeg))])) _
      refine XS.iconst X0.here hx rfl (hb hby d1_9) ?_
      exact k
    by_cases hc10 : (c_a1 ((0 : Int32)).toNatClampNeg) = (3 : Int32)
    · have pre4 : ∀ t, Steps p.tables e below (s₁.setTop (mkF m 16 #[.val (.ref a1)] [(.int (c_a1 ((1 : Int32)).toNatClampNeg))])) t → Steps p.tables e below (s₁.setTop (entryFrame m #[(.ref a1)] 1)) t := by
        intro t k
        refine pre3 t ?_
        show Steps p.tables e below (s₁.setTop (mkF m 10 #[.val (.ref a1)] [(.int (3 : Int32)), (.int (c_a1 ((0 : Int32)).toNatClampNeg))])) _
        refine XS.icmpNo X0.here hx rfl (hb hby d1_10) rfl (teq hc10).2 ?_
        show Steps p.tables e below (s₁.setTop (mkF m 13 #[.val (.ref a1)] [])) _
        refine XS.aloadN X0.here hx rfl (hb hby d1_13) rfl rfl ?_
        show Steps p.tables e below (s₁.setTop (mkF m 14 #[.val (.ref a1)] [(.ref a1)])) _
        refine XS.iconst X0.here hx rfl (hb hby d1_14) ?_
        show Steps p.tables e below (s₁.setTop (mkF m 15 #[.val (.ref a1)] [(.int (1 : Int32)), (.ref a1)])) _
        refine ldB X0 hx hZ e0 V_a1 (j := (1 : Int32)) (own_in4 hc3 (by decide) (by decide)) (g := (mkF m 15 #[.val (.ref a1)] [(.int (1 : Int32)), (.ref a1)])) rfl rfl (hb hby d1_15) ?_
        exact k
      by_cases hc16 : (c_a1 ((1 : Int32)).toNatClampNeg) = (0 : Int32)
      · have pre5 : ∀ t, Steps p.tables e below (s₁.setTop (mkF m 24 #[.val (.ref a1)] [(.int (8 : Int32)), (.int (c_a1 ((2 : Int32)).toNatClampNeg))])) t → Steps p.tables e below (s₁.setTop (entryFrame m #[(.ref a1)] 1)) t := by
          intro t k
          refine pre4 t ?_
          show Steps p.tables e below (s₁.setTop (mkF m 16 #[.val (.ref a1)] [(.int (c_a1 ((1 : Int32)).toNatClampNeg))])) _
          refine XS.ifNo X0.here hx rfl (hb hby d1_16) rfl ((if0 _ _).trans (teq hc16).2) ?_
          show Steps p.tables e below (s₁.setTop (mkF m 19 #[.val (.ref a1)] [])) _
          refine XS.aloadN X0.here hx rfl (hb hby d1_19) rfl rfl ?_
          show Steps p.tables e below (s₁.setTop (mkF m 20 #[.val (.ref a1)] [(.ref a1)])) _
          refine XS.iconst X0.here hx rfl (hb hby d1_20) ?_
          show Steps p.tables e below (s₁.setTop (mkF m 21 #[.val (.ref a1)] [(.int (2 : Int32)), (.ref a1)])) _
          refine ldB X0 hx hZ e0 V_a1 (j := (2 : Int32)) (own_in4 hc3 (by decide) (by decide)) (g := (mkF m 21 #[.val (.ref a1)] [(.int (2 : Int32)), (.ref a1)])) rfl rfl (hb hby d1_21) ?_
          show Steps p.tables e below (s₁.setTop (mkF m 22 #[.val (.ref a1)] [(.int (c_a1 ((2 : Int32)).toNatClampNeg))])) _
          refine XS.bipush X0.here hx rfl (hb hby d1_22) ?_
          exact k
        by_cases hc24 : (c_a1 ((2 : Int32)).toNatClampNeg) = (8 : Int32)
        · have pre6 : ∀ t, Steps p.tables e below (s₁.setTop (mkF m 30 #[.val (.ref a1)] [(.int (c_a1 ((3 : Int32)).toNatClampNeg))])) t → Steps p.tables e below (s₁.setTop (entryFrame m #[(.ref a1)] 1)) t := by
            intro t k
            refine pre5 t ?_
            show Steps p.tables e below (s₁.setTop (mkF m 24 #[.val (.ref a1)] [(.int (8 : Int32)), (.int (c_a1 ((2 : Int32)).toNatClampNeg))])) _
            refine XS.icmpNo X0.here hx rfl (hb hby d1_24) rfl (teq hc24).2 ?_
            show Steps p.tables e below (s₁.setTop (mkF m 27 #[.val (.ref a1)] [])) _
            refine XS.aloadN X0.here hx rfl (hb hby d1_27) rfl rfl ?_
            show Steps p.tables e below (s₁.setTop (mkF m 28 #[.val (.ref a1)] [(.ref a1)])) _
            refine XS.iconst X0.here hx rfl (hb hby d1_28) ?_
            show Steps p.tables e below (s₁.setTop (mkF m 29 #[.val (.ref a1)] [(.int (3 : Int32)), (.ref a1)])) _
            refine ldB X0 hx hZ e0 V_a1 (j := (3 : Int32)) (own_in4 hc3 (by decide) (by decide)) (g := (mkF m 29 #[.val (.ref a1)] [(.int (3 : Int32)), (.ref a1)])) rfl rfl (hb hby d1_29) ?_
            exact k
          by_cases hc30 : (c_a1 ((3 : Int32)).toNatClampNeg) = (0 : Int32)
          · have eq7 : (f1 z_a1 c_a1) = (1 : Int32) := by unfold f1; simp only [if_neg hc3, if_pos hc10, if_pos hc16, if_pos hc24, if_pos hc30]
            obtain ⟨fs, hr, hrun, hended, hW, hsame⟩ := X0.leave (v := some (.int (1 : Int32))) (fun h => by rw [Bd.returns] at h; cases h)
            refine ⟨_, _, pre6 _ ?_, hrun, hended, _, _, rfl, ?_, ⟨_, rfl⟩, hW, hsame.mono (by decide) (by decide)⟩
            · show Steps p.tables e below (s₁.setTop (mkF m 30 #[.val (.ref a1)] [(.int (c_a1 ((3 : Int32)).toNatClampNeg))])) _
              refine XS.ifNo X0.here hx rfl (hb hby d1_30) rfl ((if0 _ _).trans (teq hc30).2) ?_
              show Steps p.tables e below (s₁.setTop (mkF m 33 #[.val (.ref a1)] [])) _
              refine XS.iconst X0.here hx rfl (hb hby d1_33) ?_
              show Steps p.tables e below (s₁.setTop (mkF m 34 #[.val (.ref a1)] [(.int (1 : Int32))])) _
              refine XS.goto X0.here hx rfl (pc0 := 34) (pc' := 38) rfl (hb hby d1_34) (by decide) (by decide) ?_
              show Steps p.tables e below (s₁.setTop (mkF m 38 #[.val (.ref a1)] [(.int (1 : Int32))])) _
              exact retN X0 hx (t := .boolean) Bd.returns (by simp) (hb hby d1_38) hr
            · show Q1 Z a1 z_a1 c_a1 h0 n0 _ s₁.heap _
              rw [e0]
              exact ⟨by rw [eq7], N0, rfl⟩
          · have eq8 : (f1 z_a1 c_a1) = (0 : Int32) := by unfold f1; simp only [if_neg hc3, if_pos hc10, if_pos hc16, if_pos hc24, if_neg hc30]
            obtain ⟨fs, hr, hrun, hended, hW, hsame⟩ := X0.leave (v := some (.int (0 : Int32))) (fun h => by rw [Bd.returns] at h; cases h)
            refine ⟨_, _, pre6 _ ?_, hrun, hended, _, _, rfl, ?_, ⟨_, rfl⟩, hW, hsame.mono (by decide) (by decide)⟩
            · show Steps p.tables e below (s₁.setTop (mkF m 30 #[.val (.ref a1)] [(.int (c_a1 ((3 : Int32)).toNatClampNeg))])) _
              refine XS.ifYes X0.here hx rfl (pc0 := 30) (pc' := 37) rfl (hb hby d1_30) rfl ((if0 _ _).trans (feq hc30).2) (by decide) (by decide) ?_
              show Steps p.tables e below (s₁.setTop (mkF m 37 #[.val (.ref a1)] [])) _
              refine XS.iconst X0.here hx rfl (hb hby d1_37) ?_
              show Steps p.tables e below (s₁.setTop (mkF m 38 #[.val (.ref a1)] [(.int (0 : Int32))])) _
              exact retN X0 hx (t := .boolean) Bd.returns (by simp) (hb hby d1_38) hr
            · show Q1 Z a1 z_a1 c_a1 h0 n0 _ s₁.heap _
              rw [e0]
              exact ⟨by rw [eq8], N0, rfl⟩
        · have eq9 : (f1 z_a1 c_a1) = (0 : Int32) := by unfold f1; simp only [if_neg hc3, if_pos hc10, if_pos hc16, if_neg hc24]
          obtain ⟨fs, hr, hrun, hended, hW, hsame⟩ := X0.leave (v := some (.int (0 : Int32))) (fun h => by rw [Bd.returns] at h; cases h)
          refine ⟨_, _, pre5 _ ?_, hrun, hended, _, _, rfl, ?_, ⟨_, rfl⟩, hW, hsame.mono (by decide) (by decide)⟩
          · show Steps p.tables e below (s₁.setTop (mkF m 24 #[.val (.ref a1)] [(.int (8 : Int32)), (.int (c_a1 ((2 : Int32)).toNatClampNeg))])) _
            refine XS.icmpYes X0.here hx rfl (pc0 := 24) (pc' := 37) rfl (hb hby d1_24) rfl (feq hc24).2 (by decide) (by decide) ?_
            show Steps p.tables e below (s₁.setTop (mkF m 37 #[.val (.ref a1)] [])) _
            refine XS.iconst X0.here hx rfl (hb hby d1_37) ?_
            show Steps p.tables e below (s₁.setTop (mkF m 38 #[.val (.ref a1)] [(.int (0 : Int32))])) _
            exact retN X0 hx (t := .boolean) Bd.returns (by simp) (hb hby d1_38) hr
          · show Q1 Z a1 z_a1 c_a1 h0 n0 _ s₁.heap _
            rw [e0]
            exact ⟨by rw [eq9], N0, rfl⟩
      · have eq10 : (f1 z_a1 c_a1) = (0 : Int32) := by unfold f1; simp only [if_neg hc3, if_pos hc10, if_neg hc16]
        obtain ⟨fs, hr, hrun, hended, hW, hsame⟩ := X0.leave (v := some (.int (0 : Int32))) (fun h => by rw [Bd.returns] at h; cases h)
        refine ⟨_, _, pre4 _ ?_, hrun, hended, _, _, rfl, ?_, ⟨_, rfl⟩, hW, hsame.mono (by decide) (by decide)⟩
        · show Steps p.tables e below (s₁.setTop (mkF m 16 #[.val (.ref a1)] [(.int (c_a1 ((1 : Int32)).toNatClampNeg))])) _
          refine XS.ifYes X0.here hx rfl (pc0 := 16) (pc' := 37) rfl (hb hby d1_16) rfl ((if0 _ _).trans (feq hc16).2) (by decide) (by decide) ?_
          show Steps p.tables e below (s₁.setTop (mkF m 37 #[.val (.ref a1)] [])) _
          refine XS.iconst X0.here hx rfl (hb hby d1_37) ?_
          show Steps p.tables e below (s₁.setTop (mkF m 38 #[.val (.ref a1)] [(.int (0 : Int32))])) _
          exact retN X0 hx (t := .boolean) Bd.returns (by simp) (hb hby d1_38) hr
        · show Q1 Z a1 z_a1 c_a1 h0 n0 _ s₁.heap _
          rw [e0]
          exact ⟨by rw [eq10], N0, rfl⟩
    · have eq11 : (f1 z_a1 c_a1) = (0 : Int32) := by unfold f1; simp only [if_neg hc3, if_neg hc10]
      obtain ⟨fs, hr, hrun, hended, hW, hsame⟩ := X0.leave (v := some (.int (0 : Int32))) (fun h => by rw [Bd.returns] at h; cases h)
      refine ⟨_, _, pre3 _ ?_, hrun, hended, _, _, rfl, ?_, ⟨_, rfl⟩, hW, hsame.mono (by decide) (by decide)⟩
      · show Steps p.tables e below (s₁.setTop (mkF m 10 #[.val (.ref a1)] [(.int (3 : Int32)), (.int (c_a1 ((0 : Int32)).toNatClampNeg))])) _
        refine XS.icmpYes X0.here hx rfl (pc0 := 10) (pc' := 37) rfl (hb hby d1_10) rfl (feq hc10).2 (by decide) (by decide) ?_
        show Steps p.tables e below (s₁.setTop (mkF m 37 #[.val (.ref a1)] [])) _
        refine XS.iconst X0.here hx rfl (hb hby d1_37) ?_
        show Steps p.tables e below (s₁.setTop (mkF m 38 #[.val (.ref a1)] [(.int (0 : Int32))])) _
        exact retN X0 hx (t := .boolean) Bd.returns (by simp) (hb hby d1_38) hr
      · show Q1 Z a1 z_a1 c_a1 h0 n0 _ s₁.heap _
        rw [e0]
        exact ⟨by rw [eq11], N0, rfl⟩
theorem pd_0 : parseMethodDescriptor "(IIII)B" = some ⟨[.int, .int, .int, .int], some .byte⟩ := by decide +kernel
theorem pd_1 : parseMethodDescriptor "([B)Z" = some ⟨[(.array .byte)], some .boolean⟩ := by decide +kernel
theorem ef_0 (m : MethodId) (x0 : Int32) (x1 : Int32) (x2 : Int32) : entryFrame m #[(.int x0), (.int x1), (.int x2)] maxLocals = mkF m 0 #[.val (.int x0), .val (.int x1), .val (.int x2), .unset, .unset, .unset, .unset, .unset, .unset] [] := by first | (simp [entryFrame, mkF, argsToLocals, Value.category, maxLocals]; done) | rfl
def f0_v30 (p1 : Int32) (p2 : Int32) (p3 : Int32) : Nat → Int32 := (ownU (fun _ => 0) ((0 : Int32)).toNatClampNeg (nar .byte (f2 ((p1.toUInt32 >>> ((3 : Int32) &&& 31).toUInt32).toInt32) (0 : Int32) p2 (3 : Int32))))
def f0_A_b4_31 (p1 : Int32) (p2 : Int32) (p3 : Int32) : Nat → Int32 := (if (0 : Int32) < (p1 &&& (7 : Int32)) then (f0_v30 p1 p2 p3) else (fun _ => 0))
def f0_v47 (p1 : Int32) (p2 : Int32) (p3 : Int32) : Nat → Int32 := (ownU (f0_A_b4_31 p1 p2 p3) ((1 : Int32)).toNatClampNeg (nar .byte (f2 ((p1.toUInt32 >>> ((3 : Int32) &&& 31).toUInt32).toInt32) (1 : Int32) p2 (0 : Int32))))
def f0_A_b4_48 (p1 : Int32) (p2 : Int32) (p3 : Int32) : Nat → Int32 := (if (1 : Int32) < (p1 &&& (7 : Int32)) then (f0_v47 p1 p2 p3) else (f0_A_b4_31 p1 p2 p3))
def f0_v65 (p1 : Int32) (p2 : Int32) (p3 : Int32) : Nat → Int32 := (ownU (f0_A_b4_48 p1 p2 p3) ((2 : Int32)).toNatClampNeg (nar .byte (f2 ((p1.toUInt32 >>> ((3 : Int32) &&& 31).toUInt32).toInt32) (2 : Int32) p2 (8 : Int32))))
def f0_A_b4_66 (p1 : Int32) (p2 : Int32) (p3 : Int32) : Nat → Int32 := (if (2 : Int32) < (p1 &&& (7 : Int32)) then (f0_v65 p1 p2 p3) else (f0_A_b4_48 p1 p2 p3))
def f0_v82 (p1 : Int32) (p2 : Int32) (p3 : Int32) : Nat → Int32 := (ownU (f0_A_b4_66 p1 p2 p3) ((3 : Int32)).toNatClampNeg (nar .byte (f2 ((p1.toUInt32 >>> ((3 : Int32) &&& 31).toUInt32).toInt32) (3 : Int32) p2 (0 : Int32))))
def f0_A_b4_83 (p1 : Int32) (p2 : Int32) (p3 : Int32) : Nat → Int32 := (if (3 : Int32) < (p1 &&& (7 : Int32)) then (f0_v82 p1 p2 p3) else (f0_A_b4_66 p1 p2 p3))
def f0_v93 (p1 : Int32) (p2 : Int32) (p3 : Int32) : Nat → Int32 := (ownU (f0_A_b4_83 p1 p2 p3) ((4 : Int32)).toNatClampNeg (nar .byte (p3.toInt8.toInt32)))
def f0_A_b4_94 (p1 : Int32) (p2 : Int32) (p3 : Int32) : Nat → Int32 := (if (4 : Int32) < (p1 &&& (7 : Int32)) then (f0_v93 p1 p2 p3) else (f0_A_b4_83 p1 p2 p3))
def f0_v107 (p1 : Int32) (p2 : Int32) (p3 : Int32) : Nat → Int32 := (ownU (f0_A_b4_94 p1 p2 p3) ((5 : Int32)).toNatClampNeg (nar .byte ((p3 >>> ((8 : Int32) &&& 31)).toInt8.toInt32)))
def f0_A_b4_108 (p1 : Int32) (p2 : Int32) (p3 : Int32) : Nat → Int32 := (if (5 : Int32) < (p1 &&& (7 : Int32)) then (f0_v107 p1 p2 p3) else (f0_A_b4_94 p1 p2 p3))
def f0_v123 (p1 : Int32) (p2 : Int32) (p3 : Int32) : Nat → Int32 := (ownU (f0_A_b4_108 p1 p2 p3) ((6 : Int32)).toNatClampNeg (nar .byte ((p3 >>> ((16 : Int32) &&& 31)).toInt8.toInt32)))
def f0_A_b4_124 (p1 : Int32) (p2 : Int32) (p3 : Int32) : Nat → Int32 := (if (6 : Int32) < (p1 &&& (7 : Int32)) then (f0_v123 p1 p2 p3) else (f0_A_b4_108 p1 p2 p3))
def f0_v186 (p1 : Int32) (p2 : Int32) (p3 : Int32) : Int32 := ((((((f0_A_b4_124 p1 p2 p3) ((0 : Int32)).toNatClampNeg) &&& (255 : Int32)) ||| ((((f0_A_b4_124 p1 p2 p3) ((1 : Int32)).toNatClampNeg) &&& (255 : Int32)) <<< ((8 : Int32) &&& 31))) ||| ((((f0_A_b4_124 p1 p2 p3) ((2 : Int32)).toNatClampNeg) &&& (255 : Int32)) <<< ((16 : Int32) &&& 31))) ||| ((((f0_A_b4_124 p1 p2 p3) ((3 : Int32)).toNatClampNeg) &&& (255 : Int32)) <<< ((24 : Int32) &&& 31)))
def f0_s0_200 (p1 : Int32) (p2 : Int32) (p3 : Int32) : Int32 := (if (f0_v186 p1 p2 p3) = (524291 : Int32) then (1 : Int32) else (0 : Int32))
def f0 (p1 : Int32) (p2 : Int32) (p3 : Int32) : Int32 := (if (p1 &&& (7 : Int32)) < (4 : Int32) then (if (f1 (p1 &&& (7 : Int32)) (f0_A_b4_124 p1 p2 p3)) = (0 : Int32) then (1 : Int32) else (0 : Int32)) else (if (f1 (p1 &&& (7 : Int32)) (f0_A_b4_124 p1 p2 p3)) = (f0_s0_200 p1 p2 p3) then (1 : Int32) else (0 : Int32)))
def Q0 (Z : State) (p1 : Int32) (p2 : Int32) (p3 : Int32) (h0 : Heap) (n0 : Nat) (v : Option Value) (h : Heap) (L : List Loc) : Prop := v = some (.int (f0 p1 p2 p3)) ∧ Fr n0 L ∧ True
set_option maxRecDepth 65536 in
set_option maxHeartbeats 40000000 in
theorem rm0 (l : Launch) (Z : State) (a0 : Array Value) (hw : ∀ d ∈ tables_1, d.before a0 Z = true) (ws : List Jvm.Cond) (p1 : Int32) (p2 : Int32) (p3 : Int32) (h0 : Heap) (n0 : Nat) (Z0 : n0 ≤ h0.size) :
    MetFree l x (head1 (Jvm.Cond.code x code maxLocals ret :: ws) room_1) (fun a U => a = #[(.int p1), (.int p2), (.int p3)] ∧ Z.Warmed39 U.vm ∧ U.heap = h0) (fun _ _ _ _ _ => True) (fun _ U o U' => ∃ v L, o = .returned v ∧ Q0 Z p1 p2 p3 h0 n0 v U'.heap L ∧ FrameEnd U o U' L room_1.cells room_1.slots) := by
  refine MetFree.of_bodySF (plainFor_of_name pn_0) hisR ?_
  intro p e s m args below meth c s₁ Bd hml0 hP hK
  obtain ⟨rfl, hZ, hh⟩ := hP
  have hx := Bd.exec
  have hby := Bd.bytes
  have hml : c.maxLocals = 9 := hml0
  have hown : s.vm.findClass "com/example/weaverbird/weaverbird/format/BinaryXmlParserIsBinaryXmlPinLaw" = some m.cls := findClass_of_methodNamed Bd.named
  have hnm := (name_of_methodNamed Bd.named Bd.method).1
  have X0 : Stand p l e room_1 s m #[(.int p1), (.int p2), (.int p3)] below meth c s₁ [] 0 0 := Stand.of_body Bd
  have e0 : s₁.heap = h0 := by rw [← hh, Bd.state]; rfl
  have N0 := Fr.nil n0
  have pre0 : ∀ t, Steps p.tables e below (s₁.setTop (mkF m 0 #[.val (.int p1), .val (.int p2), .val (.int p3), .unset, .unset, .unset, .unset, .unset, .unset] [])) t → Steps p.tables e below (s₁.setTop (entryFrame m #[(.int p1), (.int p2), (.int p3)] maxLocals)) t := fun t k => castTop (ef_0 m p1 p2 p3) k
  obtain ⟨T4, h4, k4, X4, e4, E4, A4, st4⟩ := newP X0 hx hZ (hw _ (List.mem_of_getElem? (i := 0) rfl)) e0 (g := (mkF m 11 #[.val (.int p1), .val (.int p2), .val (.int p3), .val (.int (p1 &&& (7 : Int32))), .val (.int ((p1.toUInt32 >>> ((3 : Int32) &&& 31).toUInt32).toInt32)), .unset, .unset, .unset, .unset] [(.int (p1 &&& (7 : Int32)))])) rfl (hb hby at_11) rfl (own_neg p1) (cap := 7) (own_cap p1) (by decide) (by decide) (by decide)
  obtain ⟨b4, g4⟩ : ∃ z, z = h0.size := ⟨_, rfl⟩
  rw [← g4] at A4 st4
  have g_b4 : n0 ≤ b4 := Nat.le_trans Z0 (Nat.le_of_eq g4.symm)
  have c5 : n0 ≤ h4.size := Nat.le_trans Z0 E4.1
  have c6 : IAr Z h4 b4 .byte (p1 &&& (7 : Int32)) (fun _ => 0) := IAr.new A4 (own_neg p1) rfl
  have pre1 : ∀ t, Steps p.tables e below (T4.setTop (mkF m 16 #[.val (.int p1), .val (.int p2), .val (.int p3), .val (.int (p1 &&& (7 : Int32))), .val (.int ((p1.toUInt32 >>> ((3 : Int32) &&& 31).toUInt32).toInt32)), .val (.ref b4), .unset, .unset, .unset] [(.int (p1 &&& (7 : Int32)))])) t → Steps p.tables e below (s₁.setTop (entryFrame m #[(.int p1), (.int p2), (.int p3)] maxLocals)) t := by
    intro t k
    refine pre0 t ?_
    show Steps p.tables e below (s₁.setTop (mkF m 0 #[.val (.int p1), .val (.int p2), .val (.int p3), .unset, .unset, .unset, .unset, .unset, .unset] [])) _
    refine XS.iloadN X0.here hx rfl (hb hby at_0) rfl ?_
    show Steps p.tables e below (s₁.setTop (mkF m 1 #[.val (.int p1), .val (.int p2), .val (.int p3), .unset, .unset, .unset, .unset, .unset, .unset] [(.int p1)])) _
    refine XS.bipush X0.here hx rfl (hb hby at_1) ?_
    show Steps p.tables e below (s₁.setTop (mkF m 3 #[.val (.int p1), .val (.int p2), .val (.int p3), .unset, .unset, .unset, .unset, .unset, .unset] [(.int (7 : Int32)), (.int p1)])) _
    refine XS.iand X0.here hx rfl (hb hby at_3) rfl ?_
    show Steps p.tables e below (s₁.setTop (mkF m 4 #[.val (.int p1), .val (.int p2), .val (.int p3), .unset, .unset, .unset, .unset, .unset, .unset] [(.int (p1 &&& (7 : Int32)))])) _
    refine XS.istoreN X0.here hx rfl (hb hby at_4) rfl (l' := #[.val (.int p1), .val (.int p2), .val (.int p3), .val (.int (p1 &&& (7 : Int32))), .unset, .unset, .unset, .unset, .unset]) rfl ?_
    show Steps p.tables e below (s₁.setTop (mkF m 5 #[.val (.int p1), .val (.int p2), .val (.int p3), .val (.int (p1 &&& (7 : Int32))), .unset, .unset, .unset, .unset, .unset] [])) _
    refine XS.iloadN X0.here hx rfl (hb hby at_5) rfl ?_
    show Steps p.tables e below (s₁.setTop (mkF m 6 #[.val (.int p1), .val (.int p2), .val (.int p3), .val (.int (p1 &&& (7 : Int32))), .unset, .unset, .unset, .unset, .unset] [(.int p1)])) _
    refine XS.iconst X0.here hx rfl (hb hby at_6) ?_
    show Steps p.tables e below (s₁.setTop (mkF m 7 #[.val (.int p1), .val (.int p2), .val (.int p3), .val (.int (p1 &&& (7 : Int32))), .unset, .unset, .unset, .unset, .unset] [(.int (3 : Int32)), (.int p1)])) _
    refine XS.iushr X0.here hx rfl (hb hby at_7) rfl ?_
    show Steps p.tables e below (s₁.setTop (mkF m 8 #[.val (.int p1), .val (.int p2), .val (.int p3), .val (.int (p1 &&& (7 : Int32))), .unset, .unset, .unset, .unset, .unset] [(.int ((p1.toUInt32 >>> ((3 : Int32) &&& 31).toUInt32).toInt32))])) _
    refine XS.istore X0.here hx rfl (hb hby at_8) rfl (l' := #[.val (.int p1), .val (.int p2), .val (.int p3), .val (.int (p1 &&& (7 : Int32))), .val (.int ((p1.toUInt32 >>> ((3 : Int32) &&& 31).toUInt32).toInt32)), .unset, .unset, .unset, .unset]) rfl ?_
    show Steps p.tables e below (s₁.setTop (mkF m 10 #[.val (.int p1), .val (.int p2), .val (.int p3), .val (.int (p1 &&& (7 : Int32))), .val (.int ((p1.toUInt32 >>> ((3 : Int32) &&& 31).toUInt32).toInt32)), .unset, .unset, .unset, .unset] [])) _
    refine XS.iloadN X0.here hx rfl (hb hby at_10) rfl ?_
    show Steps p.tables e below (s₁.setTop (mkF m 11 #[.val (.int p1), .val (.int p2), .val (.int p3), .val (.int (p1 &&& (7 : Int32))), .val (.int ((p1.toUInt32 >>> ((3 : Int32) &&& 31).toUInt32).toInt32)), .unset, .unset, .unset, .unset] [(.int (p1 &&& (7 : Int32)))])) _
    refine st4 _ ?_
    show Steps p.tables e below (T4.setTop (mkF m 13 #[.val (.int p1), .val (.int p2), .val (.int p3), .val (.int (p1 &&& (7 : Int32))), .val (.int ((p1.toUInt32 >>> ((3 : Int32) &&& 31).toUInt32).toInt32)), .unset, .unset, .unset, .unset] [(.ref b4)])) _
    refine XS.astore X4.here hx rfl (hb hby at_13) rfl rfl (l' := #[.val (.int p1), .val (.int p2), .val (.int p3), .val (.int (p1 &&& (7 : Int32))), .val (.int ((p1.toUInt32 >>> ((3 : Int32) &&& 31).toUInt32).toInt32)), .val (.ref b4), .unset, .unset, .unset]) rfl ?_
    show Steps p.tables e below (T4.setTop (mkF m 15 #[.val (.int p1), .val (.int p2), .val (.int p3), .val (.int (p1 &&& (7 : Int32))), .val (.int ((p1.toUInt32 >>> ((3 : Int32) &&& 31).toUInt32).toInt32)), .val (.ref b4), .unset, .unset, .unset] [])) _
    refine XS.iloadN X4.here hx rfl (hb hby at_15) rfl ?_
    exact k
  obtain ⟨T14, Lmpre2, h11, X14, e14, N14, c12, c13, pre2⟩ : ∃ (T' : State) (L' : List Loc) (h11 : Heap), Stand p l e room_1 s m #[(.int p1), (.int p2), (.int p3)] below meth c T' L' 1 7 ∧ T'.heap = h11 ∧ Fr n0 L' ∧ n0 ≤ h11.size ∧ IAr Z h11 b4 .byte (p1 &&& (7 : Int32)) (f0_A_b4_31 p1 p2 p3) ∧ ∀ t, Steps p.tables e below (T'.setTop (mkF m 31 #[.val (.int p1), .val (.int p2), .val (.int p3), .val (.int (p1 &&& (7 : Int32))), .val (.int ((p1.toUInt32 >>> ((3 : Int32) &&& 31).toUInt32).toInt32)), .val (.ref b4), .unset, .unset, .unset] [])) t → Steps p.tables e below (s₁.setTop (entryFrame m #[(.int p1), (.int p2), (.int p3)] maxLocals)) t := by
    by_cases hc16 : (0 : Int32) < (p1 &&& (7 : Int32))
    · obtain ⟨_, _, ⟨T7, L7, k7, n7⟩, -, X7, ⟨Lc7, hQ7, l7, y7, z7⟩, st7⟩ := Jvm.LawKit.callS X4 hx (y := (⟨"com/example/weaverbird/weaverbird/format/BinaryXmlParserIsBinaryXmlPinLaw", "pick", "(IIII)B"⟩ : MethodName)) hown (mvT hZ (hw _ (List.mem_of_getElem? (i := 5) rfl))) (mvT hZ (hw _ (List.mem_of_getElem? (i := 6) rfl))) (mvT hZ (hw _ (List.mem_of_getElem? (i := 7) rfl))) (mvT hZ (hw _ (List.mem_of_getElem? (i := 8) rfl))) (by decide) (backOf (W := 2) (rm2 l Z a0 hw [] ((p1.toUInt32 >>> ((3 : Int32) &&& 31).toUInt32).toInt32) (0 : Int32) p2 (3 : Int32) h4 n0 c5 ) hZ (hw _ (List.mem_of_getElem? (i := 8) rfl)) (hw _ (List.mem_of_getElem? (i := 7) rfl)) (by decide) (by decide)) (g := (mkF m 27 #[.val (.int p1), .val (.int p2), .val (.int p3), .val (.int (p1 &&& (7 : Int32))), .val (.int ((p1.toUInt32 >>> ((3 : Int32) &&& 31).toUInt32).toInt32)), .val (.ref b4), .unset, .unset, .unset] [(.int (3 : Int32)), (.int p2), (.int (0 : Int32)), (.int ((p1.toUInt32 >>> ((3 : Int32) &&& 31).toUInt32).toInt32)), (.int (0 : Int32)), (.ref b4)])) rfl (by rw [hml]; rfl) (argsL := [(.int ((p1.toUInt32 >>> ((3 : Int32) &&& 31).toUInt32).toInt32)), (.int (0 : Int32)), (.int p2), (.int (3 : Int32))]) (rest := [(.int (0 : Int32)), (.ref b4)]) (lenOf pd_0 rfl) rfl (by show 2 * 0 + _ ≤ _; exact Nat.le_of_eq rfl) (hb hby at_27) (fun _ _ => ⟨rfl, e4, (by decide : 1 + 0 ≤ _), (by decide : 7 + 0 ≤ _)⟩)
      dsimp only [Pt.U, Pt.locs, Pt.cells, Pt.slots] at X7 l7 y7 z7 st7 hQ7
      subst l7 y7 z7
      obtain ⟨rfl, N7q, e7⟩ := hQ7
      have N7 := Fr.app N0 N7q
      obtain ⟨T8, h8, X8, e8, W8, V8, st8⟩ := sB X7 hx hZ e7 c6 (j := (0 : Int32)) ⟨by decide, by first | decide | assumption⟩ (g := (mkF m 30 #[.val (.int p1), .val (.int p2), .val (.int p3), .val (.int (p1 &&& (7 : Int32))), .val (.int ((p1.toUInt32 >>> ((3 : Int32) &&& 31).toUInt32).toInt32)), .val (.ref b4), .unset, .unset, .unset] [(.int (f2 ((p1.toUInt32 >>> ((3 : Int32) &&& 31).toUInt32).toInt32) (0 : Int32) p2 (3 : Int32))), (.int (0 : Int32)), (.ref b4)])) rfl rfl (hb hby at_30)
      have N8 := Fr.snoc X8 N7 g_b4
      have c9 : n0 ≤ h8.size := Nat.le_trans c5 (Keep.of_wr W8).1
      have c10 : IAr Z h8 b4 .byte (p1 &&& (7 : Int32)) (f0_v30 p1 p2 p3) := V8
      have eq3 := (show (f0_A_b4_31 p1 p2 p3) = (f0_v30 p1 p2 p3) from by unfold f0_A_b4_31; simp only [if_pos hc16])
      refine ⟨T8, _, h8, X8, e8, N8, c9, (by simp only [eq3]; exact c10), fun t k => ?_⟩
      try rw [eq3] at k
      refine pre1 t ?_
      show Steps p.tables e below (T4.setTop (mkF m 16 #[.val (.int p1), .val (.int p2), .val (.int p3), .val (.int (p1 &&& (7 : Int32))), .val (.int ((p1.toUInt32 >>> ((3 : Int32) &&& 31).toUInt32).toInt32)), .val (.ref b4), .unset, .unset, .unset] [(.int (p1 &&& (7 : Int32)))])) _
      refine XS.ifNo X4.here hx rfl (hb hby at_16) rfl ((if0 _ _).trans (tlt hc16).2.2.2) ?_
      show Steps p.tables e below (T4.setTop (mkF m 19 #[.val (.int p1), .val (.int p2), .val (.int p3), .val (.int (p1 &&& (7 : Int32))), .val (.int ((p1.toUInt32 >>> ((3 : Int32) &&& 31).toUInt32).toInt32)), .val (.ref b4), .unset, .unset, .unset] [])) _
      refine XS.aload X4.here hx rfl (hb hby at_19) rfl rfl ?_
      show Steps p.tables e below (T4.setTop (mkF m 21 #[.val (.int p1), .val (.int p2), .val (.int p3), .val (.int (p1 &&& (7 : Int32))), .val (.int ((p1.toUInt32 >>> ((3 : Int32) &&& 31).toUInt32).toInt32)), .val (.ref b4), .unset, .unset, .unset] [(.ref b4)])) _
      refine XS.iconst X4.here hx rfl (hb hby at_21) ?_
      show Steps p.tables e below (T4.setTop (mkF m 22 #[.val (.int p1), .val (.int p2), .val (.int p3), .val (.int (p1 &&& (7 : Int32))), .val (.int ((p1.toUInt32 >>> ((3 : Int32) &&& 31).toUInt32).toInt32)), .val (.ref b4), .unset, .unset, .unset] [(.int (0 : Int32)), (.ref b4)])) _
      refine XS.iload X4.here hx rfl (hb hby at_22) rfl ?_
      show Steps p.tables e below (T4.setTop (mkF m 24 #[.val (.int p1), .val (.int p2), .val (.int p3), .val (.int (p1 &&& (7 : Int32))), .val (.int ((p1.toUInt32 >>> ((3 : Int32) &&& 31).toUInt32).toInt32)), .val (.ref b4), .unset, .unset, .unset] [(.int ((p1.toUInt32 >>> ((3 : Int32) &&& 31).toUInt32).toInt32)), (.int (0 : Int32)), (.ref b4)])) _
      refine XS.iconst X4.here hx rfl (hb hby at_24) ?_
      show Steps p.tables e below (T4.setTop (mkF m 25 #[.val (.int p1), .val (.int p2), .val (.int p3), .val (.int (p1 &&& (7 : Int32))), .val (.int ((p1.toUInt32 >>> ((3 : Int32) &&& 31).toUInt32).toInt32)), .val (.ref b4), .unset, .unset, .unset] [(.int (0 : Int32)), (.int ((p1.toUInt32 >>> ((3 : Int32) &&& 31).toUInt32).toInt32)), (.int (0 : Int32)), (.ref b4)])) _
      refine XS.iloadN X4.here hx rfl (hb hby at_25) rfl ?_
      show Steps p.tables e below (T4.setTop (mkF m 26 #[.val (.int p1), .val (.int p2), .val (.int p3), .val (.int (p1 &&& (7 : Int32))), .val (.int ((p1.toUInt32 >>> ((3 : Int32) &&& 31).toUInt32).toInt32)), .val (.ref b4), .unset, .unset, .unset] [(.int p2), (.int (0 : Int32)), (.int ((p1.toUInt32 >>> ((3 : Int32) &&& 31).toUInt32).toInt32)), (.int (0 : Int32)), (.ref b4)])) _
      refine XS.iconst X4.here hx rfl (hb hby at_26) ?_
      show Steps p.tables e below (T4.setTop (mkF m 27 #[.val (.int p1), .val (.int p2), .val (.int p3), .val (.int (p1 &&& (7 : Int32))), .val (.int ((p1.toUInt32 >>> ((3 : Int32) &&& 31).toUInt32).toInt32)), .val (.ref b4), .unset, .unset, .unset] [(.int (3 : Int32)), (.int p2), (.int (0 : Int32)), (.int ((p1.toUInt32 >>> ((3 : Int32) &&& 31).toUInt32).toInt32)), (.int (0 : Int32)), (.ref b4)])) _
      refine st7 _ ?_
      show Steps p.tables e below (T7.setTop (mkF m 30 #[.val (.int p1), .val (.int p2), .val (.int p3), .val (.int (p1 &&& (7 : Int32))), .val (.int ((p1.toUInt32 >>> ((3 : Int32) &&& 31).toUInt32).toInt32)), .val (.ref b4), .unset, .unset, .unset] [(.int (f2 ((p1.toUInt32 >>> ((3 : Int32) &&& 31).toUInt32).toInt32) (0 : Int32) p2 (3 : Int32))), (.int (0 : Int32)), (.ref b4)])) _
      refine st8 _ ?_
      exact k
    · have eq4 := (show (f0_A_b4_31 p1 p2 p3) = (fun _ => 0) from by unfold f0_A_b4_31; simp only [if_neg hc16])
      refine ⟨T4, _, h4, X4, e4, N0, c5, (by simp only [eq4]; exact c6), fun t k => ?_⟩
      try rw [eq4] at k
      refine pre1 t ?_
      show Steps p.tables e below (T4.setTop (mkF m 16 #[.val (.int p1), .val (.int p2), .val (.int p3), .val (.int (p1 &&& (7 : Int32))), .val (.int ((p1.toUInt32 >>> ((3 : Int32) &&& 31).toUInt32).toInt32)), .val (.ref b4), .unset, .unset, .unset] [(.int (p1 &&& (7 : Int32)))])) _
      refine XS.ifYes X4.here hx rfl (pc0 := 16) (pc' := 31) rfl (hb hby at_16) rfl ((if0 _ _).trans (flt hc16).2.2.2) (by decide) (by decide) ?_
      exact k
  have pre5 : ∀ t, Steps p.tables e below (T14.setTop (mkF m 33 #[.val (.int p1), .val (.int p2), .val (.int p3), .val (.int (p1 &&& (7 : Int32))), .val (.int ((p1.toUInt32 >>> ((3 : Int32) &&& 31).toUInt32).toInt32)), .val (.ref b4), .unset, .unset, .unset] [(.int (1 : Int32)), (.int (p1 &&& (7 : Int32)))])) t → Steps p.tables e below (s₁.setTop (entryFrame m #[(.int p1), (.int p2), (.int p3)] maxLocals)) t := by
    intro t k
    refine pre2 t ?_
    show Steps p.tables e below (T14.setTop (mkF m 31 #[.val (.int p1), .val (.int p2), .val (.int p3), .val (.int (p1 &&& (7 : Int32))), .val (.int ((p1.toUInt32 >>> ((3 : Int32) &&& 31).toUInt32).toInt32)), .val (.ref b4), .unset, .unset, .unset] [])) _
    refine XS.iloadN X14.here hx rfl (hb hby at_31) rfl ?_
    show Steps p.tables e below (T14.setTop (mkF m 32 #[.val (.int p1), .val (.int p2), .val (.int p3), .val (.int (p1 &&& (7 : Int32))), .val (.int ((p1.toUInt32 >>> ((3 : Int32) &&& 31).toUInt32).toInt32)), .val (.ref b4), .unset, .unset, .unset] [(.int (p1 &&& (7 : Int32)))])) _
    refine XS.iconst X14.here hx rfl (hb hby at_32) ?_
    exact k
  obtain ⟨T22, Lmpre6, h19, X22, e22, N22, c20, c21, pre6⟩ : ∃ (T' : State) (L' : List Loc) (h19 : Heap), Stand p l e room_1 s m #[(.int p1), (.int p2), (.int p3)] below meth c T' L' 1 7 ∧ T'.heap = h19 ∧ Fr n0 L' ∧ n0 ≤ h19.size ∧ IAr Z h19 b4 .byte (p1 &&& (7 : Int32)) (f0_A_b4_48 p1 p2 p3) ∧ ∀ t, Steps p.tables e below (T'.setTop (mkF m 48 #[.val (.int p1), .val (.int p2), .val (.int p3), .val (.int (p1 &&& (7 : Int32))), .val (.int ((p1.toUInt32 >>> ((3 : Int32) &&& 31).toUInt32).toInt32)), .val (.ref b4), .unset, .unset, .unset] [])) t → Steps p.tables e below (s₁.setTop (entryFrame m #[(.int p1), (.int p2), (.int p3)] maxLocals)) t := by
    by_cases hc33 : (1 : Int32) < (p1 &&& (7 : Int32))
    · obtain ⟨_, _, ⟨T15, L15, k15, n15⟩, -, X15, ⟨Lc15, hQ15, l15, y15, z15⟩, st15⟩ := Jvm.LawKit.callS X14 hx (y := (⟨"com/example/weaverbird/weaverbird/format/BinaryXmlParserIsBinaryXmlPinLaw", "pick", "(IIII)B"⟩ : MethodName)) hown (mvT hZ (hw _ (List.mem_of_getElem? (i := 5) rfl))) (mvT hZ (hw _ (List.mem_of_getElem? (i := 6) rfl))) (mvT hZ (hw _ (List.mem_of_getElem? (i := 7) rfl))) (mvT hZ (hw _ (List.mem_of_getElem? (i := 8) rfl))) (by decide) (backOf (W := 2) (rm2 l Z a0 hw [] ((p1.toUInt32 >>> ((3 : Int32) &&& 31).toUInt32).toInt32) (1 : Int32) p2 (0 : Int32) h11 n0 c12 ) hZ (hw _ (List.mem_of_getElem? (i := 8) rfl)) (hw _ (List.mem_of_getElem? (i := 7) rfl)) (by decide) (by decide)) (g := (mkF m 44 #[.val (.int p1), .val (.int p2), .val (.int p3), .val (.int (p1 &&& (7 : Int32))), .val (.int ((p1.toUInt32 >>> ((3 : Int32) &&& 31).toUInt32).toInt32)), .val (.ref b4), .unset, .unset, .unset] [(.int (0 : Int32)), (.int p2), (.int (1 : Int32)), (.int ((p1.toUInt32 >>> ((3 : Int32) &&& 31).toUInt32).toInt32)), (.int (1 : Int32)), (.ref b4)])) rfl (by rw [hml]; rfl) (argsL := [(.int ((p1.toUInt32 >>> ((3 : Int32) &&& 31).toUInt32).toInt32)), (.int (1 : Int32)), (.int p2), (.int (0 : Int32))]) (rest := [(.int (1 : Int32)), (.ref b4)]) (lenOf pd_0 rfl) rfl (by show 2 * 0 + _ ≤ _; exact Nat.le_of_eq rfl) (hb hby at_44) (fun _ _ => ⟨rfl, e14, (by decide : 1 + 0 ≤ _), (by decide : 7 + 0 ≤ _)⟩)
      dsimp only [Pt.U, Pt.locs, Pt.cells, Pt.slots] at X15 l15 y15 z15 st15 hQ15
      subst l15 y15 z15
      obtain ⟨rfl, N15q, e15⟩ := hQ15
      have N15 := Fr.app N14 N15q
      obtain ⟨T16, h16, X16, e16, W16, V16, st16⟩ := sB X15 hx hZ e15 c13 (j := (1 : Int32)) ⟨by decide, by first | decide | assumption⟩ (g := (mkF m 47 #[.val (.int p1), .val (.int p2), .val (.int p3), .val (.int (p1 &&& (7 : Int32))), .val (.int ((p1.toUInt32 >>> ((3 : Int32) &&& 31).toUInt32).toInt32)), .val (.ref b4), .unset, .unset, .unset] [(.int (f2 ((p1.toUInt32 >>> ((3 : Int32) &&& 31).toUInt32).toInt32) (1 : Int32) p2 (0 : Int32))), (.int (1 : Int32)), (.ref b4)])) rfl rfl (hb hby at_47)
      have N16 := Fr.snoc X16 N15 g_b4
      have c17 : n0 ≤ h16.size := Nat.le_trans c12 (Keep.of_wr W16).1
      have c18 : IAr Z h16 b4 .byte (p1 &&& (7 : Int32)) (f0_v47 p1 p2 p3) := V16
      have eq7 := (show (f0_A_b4_48 p1 p2 p3) = (f0_v47 p1 p2 p3) from by unfold f0_A_b4_48; simp only [if_pos hc33])
      refine ⟨T16, _, h16, X16, e16, N16, c17, (by simp only [eq7]; exact c18), fun t k => ?_⟩
      try rw [eq7] at k
      refine pre5 t ?_
      show Steps p.tables e below (T14.setTop (mkF m 33 #[.val (.int p1), .val (.int p2), .val (.int p3), .val (.int (p1 &&& (7 : Int32))), .val (.int ((p1.toUInt32 >>> ((3 : Int32) &&& 31).toUInt32).toInt32)), .val (.ref b4), .unset, .unset, .unset] [(.int (1 : Int32)), (.int (p1 &&& (7 : Int32)))])) _
      refine XS.icmpNo X14.here hx rfl (hb hby at_33) rfl (tlt hc33).2.2.2 ?_
      show Steps p.tables e below (T14.setTop (mkF m 36 #[.val (.int p1), .val (.int p2), .val (.int p3), .val (.int (p1 &&& (7 : Int32))), .val (.int ((p1.toUInt32 >>> ((3 : Int32) &&& 31).toUInt32).toInt32)), .val (.ref b4), .unset, .unset, .unset] [])) _
      refine XS.aload X14.here hx rfl (hb hby at_36) rfl rfl ?_
      show Steps p.tables e below (T14.setTop (mkF m 38 #[.val (.int p1), .val (.int p2), .val (.int p3), .val (.int (p1 &&& (7 : Int32))), .val (.int ((p1.toUInt32 >>> ((3 : Int32) &&& 31).toUInt32).toInt32)), .val (.ref b4), .unset, .unset, .unset] [(.ref b4)])) _
      refine XS.iconst X14.here hx rfl (hb hby at_38) ?_
      show Steps p.tables e below (T14.setTop (mkF m 39 #[.val (.int p1), .val (.int p2), .val (.int p3), .val (.int (p1 &&& (7 : Int32))), .val (.int ((p1.toUInt32 >>> ((3 : Int32) &&& 31).toUInt32).toInt32)), .val (.ref b4), .unset, .unset, .unset] [(.int (1 : Int32)), (.ref b4)])) _
      refine XS.iload X14.here hx rfl (hb hby at_39) rfl ?_
      show Steps p.tables e below (T14.setTop (mkF m 41 #[.val (.int p1), .val (.int p2), .val (.int p3), .val (.int (p1 &&& (7 : Int32))), .val (.int ((p1.toUInt32 >>> ((3 : Int32) &&& 31).toUInt32).toInt32)), .val (.ref b4), .unset, .unset, .unset] [(.int ((p1.toUInt32 >>> ((3 : Int32) &&& 31).toUInt32).toInt32)), (.int (1 : Int32)), (.ref b4)])) _
      refine XS.iconst X14.here hx rfl (hb hby at_41) ?_
      show Steps p.tables e below (T14.setTop (mkF m 42 #[.val (.int p1), .val (.int p2), .val (.int p3), .val (.int (p1 &&& (7 : Int32))), .val (.int ((p1.toUInt32 >>> ((3 : Int32) &&& 31).toUInt32).toInt32)), .val (.ref b4), .unset, .unset, .unset] [(.int (1 : Int32)), (.int ((p1.toUInt32 >>> ((3 : Int32) &&& 31).toUInt32).toInt32)), (.int (1 : Int32)), (.ref b4)])) _
      refine XS.iloadN X14.here hx rfl (hb hby at_42) rfl ?_
      show Steps p.tables e below (T14.setTop (mkF m 43 #[.val (.int p1), .val (.int p2), .val (.int p3), .val (.int (p1 &&& (7 : Int32))), .val (.int ((p1.toUInt32 >>> ((3 : Int32) &&& 31).toUInt32).toInt32)), .val (.ref b4), .unset, .unset, .unset] [(.int p2), (.int (1 : Int32)), (.int ((p1.toUInt32 >>> ((3 : Int32) &&& 31).toUInt32).toInt32)), (.int (1 : Int32)), (.ref b4)])) _
      refine XS.iconst X14.here hx rfl (hb hby at_43) ?_
      show Steps p.tables e below (T14.setTop (mkF m 44 #[.val (.int p1), .val (.int p2), .val (.int p3), .val (.int (p1 &&& (7 : Int32))), .val (.int ((p1.toUInt32 >>> ((3 : Int32) &&& 31).toUInt32).toInt32)), .val (.ref b4), .unset, .unset, .unset] [(.int (0 : Int32)), (.int p2), (.int (1 : Int32)), (.int ((p1.toUInt32 >>> ((3 : Int32) &&& 31).toUInt32).toInt32)), (.int (1 : Int32)), (.ref b4)])) _
      refine st15 _ ?_
      show Steps p.tables e below (T15.setTop (mkF m 47 #[.val (.int p1), .val (.int p2), .val (.int p3), .val (.int (p1 &&& (7 : Int32))), .val (.int ((p1.toUInt32 >>> ((3 : Int32) &&& 31).toUInt32).toInt32)), .val (.ref b4), .unset, .unset, .unset] [(.int (f2 ((p1.toUInt32 >>> ((3 : Int32) &&& 31).toUInt32).toInt32) (1 : Int32) p2 (0 : Int32))), (.int (1 : Int32)), (.ref b4)])) _
      refine st16 _ ?_
      exact k
    · have eq8 := (show (f0_A_b4_48 p1 p2 p3) = (f0_A_b4_31 p1 p2 p3) from by unfold f0_A_b4_48; simp only [if_neg hc33])
      refine ⟨T14, _, h11, X14, e14, N14, c12, (by simp only [eq8]; exact c13), fun t k => ?_⟩
      try rw [eq8] at k
      refine pre5 t ?_
      show Steps p.tables e below (T14.setTop (mkF m 33 #[.val (.int p1), .val (.int p2), .val (.int p3), .val (.int (p1 &&& (7 : Int32))), .val (.int ((p1.toUInt32 >>> ((3 : Int32) &&& 31).toUInt32).toInt32)), .val (.ref b4), .unset, .unset, .unset] [(.int (1 : Int32)), (.int (p1 &&& (7 : Int32)))])) _
      refine XS.icmpYes X14.here hx rfl (pc0 := 33) (pc' := 48) rfl (hb hby at_33) rfl (flt hc33).2.2.2 (by decide) (by decide) ?_
      exact k
  have pre9 : ∀ t, Steps p.tables e below (T22.setTop (mkF m 50 #[.val (.int p1), .val (.int p2), .val (.int p3), .val (.int (p1 &&& (7 : Int32))), .val (.int ((p1.toUInt32 >>> ((3 : Int32) &&& 31).toUInt32).toInt32)), .val (.ref b4), .unset, .unset, .unset] [(.int (2 : Int32)), (.int (p1 &&& (7 : Int32)))])) t → Steps p.tables e below (s₁.setTop (entryFrame m #[(.int p1), (.int p2), (.int p3)] maxLocals)) t := by
    intro t k
    refine pre6 t ?_
    show Steps p.tables e below (T22.setTop (mkF m 48 #[.val (.int p1), .val (.int p2), .val (.int p3), .val (.int (p1 &&& (7 : Int32))), .val (.int ((p1.toUInt32 >>> ((3 : Int32) &&& 31).toUInt32).toInt32)), .val (.ref b4), .unset, .unset, .unset] [])) _
    refine XS.iloadN X22.here hx rfl (hb hby at_48) rfl ?_
    show Steps p.tables e below (T22.setTop (mkF m 49 #[.val (.int p1), .val (.int p2), .val (.int p3), .val (.int (p1 &&& (7 : Int32))), .val (.int ((p1.toUInt32 >>> ((3 : Int32) &&& 31).toUInt32).toInt32)), .val (.ref b4), .unset, .unset, .unset] [(.int (p1 &&& (7 : Int32)))])) _
    refine XS.iconst X22.here hx rfl (hb hby at_49) ?_
    exact k
  obtain ⟨T30, Lmpre10, h27, X30, e30, N30, c28, c29, pre10⟩ : ∃ (T' : State) (L' : List Loc) (h27 : Heap), Stand p l e room_1 s m #[(.int p1), (.int p2), (.int p3)] below meth c T' L' 1 7 ∧ T'.heap = h27 ∧ Fr n0 L' ∧ n0 ≤ h27.size ∧ IAr Z h27 b4 .byte (p1 &&& (7 : Int32)) (f0_A_b4_66 p1 p2 p3) ∧ ∀ t, Steps p.tables e below (T'.setTop (mkF m 66 #[.val (.int p1), .val (.int p2), .val (.int p3), .val (.int (p1 &&& (7 : Int32))), .val (.int ((p1.toUInt32 >>> ((3 : Int32) &&& 31).toUInt32).toInt32)), .val (.ref b4), .unset, .unset, .unset] [])) t → Steps p.tables e below (s₁.setTop (entryFrame m #[(.int p1), (.int p2), (.int p3)] maxLocals)) t := by
    by_cases hc50 : (2 : Int32) < (p1 &&& (7 : Int32))
    · obtain ⟨_, _, ⟨T23, L23, k23, n23⟩, -, X23, ⟨Lc23, hQ23, l23, y23, z23⟩, st23⟩ := Jvm.LawKit.callS X22 hx (y := (⟨"com/example/weaverbird/weaverbird/format/BinaryXmlParserIsBinaryXmlPinLaw", "pick", "(IIII)B"⟩ : MethodName)) hown (mvT hZ (hw _ (List.mem_of_getElem? (i := 5) rfl))) (mvT hZ (hw _ (List.mem_of_getElem? (i := 6) rfl))) (mvT hZ (hw _ (List.mem_of_getElem? (i := 7) rfl))) (mvT hZ (hw _ (List.mem_of_getElem? (i := 8) rfl))) (by decide) (backOf (W := 2) (rm2 l Z a0 hw [] ((p1.toUInt32 >>> ((3 : Int32) &&& 31).toUInt32).toInt32) (2 : Int32) p2 (8 : Int32) h19 n0 c20 ) hZ (hw _ (List.mem_of_getElem? (i := 8) rfl)) (hw _ (List.mem_of_getElem? (i := 7) rfl)) (by decide) (by decide)) (g := (mkF m 62 #[.val (.int p1), .val (.int p2), .val (.int p3), .val (.int (p1 &&& (7 : Int32))), .val (.int ((p1.toUInt32 >>> ((3 : Int32) &&& 31).toUInt32).toInt32)), .val (.ref b4), .unset, .unset, .unset] [(.int (8 : Int32)), (.int p2), (.int (2 : Int32)), (.int ((p1.toUInt32 >>> ((3 : Int32) &&& 31).toUInt32).toInt32)), (.int (2 : Int32)), (.ref b4)])) rfl (by rw [hml]; rfl) (argsL := [(.int ((p1.toUInt32 >>> ((3 : Int32) &&& 31).toUInt32).toInt32)), (.int (2 : Int32)), (.int p2), (.int (8 : Int32))]) (rest := [(.int (2 : Int32)), (.ref b4)]) (lenOf pd_0 rfl) rfl (by show 2 * 0 + _ ≤ _; exact Nat.le_of_eq rfl) (hb hby at_62) (fun _ _ => ⟨rfl, e22, (by decide : 1 + 0 ≤ _), (by decide : 7 + 0 ≤ _)⟩)
      dsimp only [Pt.U, Pt.locs, Pt.cells, Pt.slots] at X23 l23 y23 z23 st23 hQ23
      subst l23 y23 z23
      obtain ⟨rfl, N23q, e23⟩ := hQ23
      have N23 := Fr.app N22 N23q
      obtain ⟨T24, h24, X24, e24, W24, V24, st24⟩ := sB X23 hx hZ e23 c21 (j := (2 : Int32)) ⟨by decide, by first | decide | assumption⟩ (g := (mkF m 65 #[.val (.int p1), .val (.int p2), .val (.int p3), .val (.int (p1 &&& (7 : Int32))), .val (.int ((p1.toUInt32 >>> ((3 : Int32) &&& 31).toUInt32).toInt32)), .val (.ref b4), .unset, .unset, .unset] [(.int (f2 ((p1.toUInt32 >>> ((3 : Int32) &&& 31).toUInt32).toInt32) (2 : Int32) p2 (8 : Int32))), (.int (2 : Int32)), (.ref b4)])) rfl rfl (hb hby at_65)
      have N24 := Fr.snoc X24 N23 g_b4
      have c25 : n0 ≤ h24.size := Nat.le_trans c20 (Keep.of_wr W24).1
      have c26 : IAr Z h24 b4 .byte (p1 &&& (7 : Int32)) (f0_v65 p1 p2 p3) := V24
      have eq11 := (show (f0_A_b4_66 p1 p2 p3) = (f0_v65 p1 p2 p3) from by unfold f0_A_b4_66; simp only [if_pos hc50])
      refine ⟨T24, _, h24, X24, e24, N24, c25, (by simp only [eq11]; exact c26), fun t k => ?_⟩
      try rw [eq11] at k
      refine pre9 t ?_
      show Steps p.tables e below (T22.setTop (mkF m 50 #[.val (.int p1), .val (.int p2), .val (.int p3), .val (.int (p1 &&& (7 : Int32))), .val (.int ((p1.toUInt32 >>> ((3 : Int32) &&& 31).toUInt32).toInt32)), .val (.ref b4), .unset, .unset, .unset] [(.int (2 : Int32)), (.int (p1 &&& (7 : Int32)))])) _
      refine XS.icmpNo X22.here hx rfl (hb hby at_50) rfl (tlt hc50).2.2.2 ?_
      show Steps p.tables e below (T22.setTop (mkF m 53 #[.val (.int p1), .val (.int p2), .val (.int p3), .val (.int (p1 &&& (7 : Int32))), .val (.int ((p1.toUInt32 >>> ((3 : Int32) &&& 31).toUInt32).toInt32)), .val (.ref b4), .unset, .unset, .unset] [])) _
      refine XS.aload X22.here hx rfl (hb hby at_53) rfl rfl ?_
      show Steps p.tables e below (T22.setTop (mkF m 55 #[.val (.int p1), .val (.int p2), .val (.int p3), .val (.int (p1 &&& (7 : Int32))), .val (.int ((p1.toUInt32 >>> ((3 : Int32) &&& 31).toUInt32).toInt32)), .val (.ref b4), .unset, .unset, .unset] [(.ref b4)])) _
      refine XS.iconst X22.here hx rfl (hb hby at_55) ?_
      show Steps p.tables e below (T22.setTop (mkF m 56 #[.val (.int p1), .val (.int p2), .val (.int p3), .val (.int (p1 &&& (7 : Int32))), .val (.int ((p1.toUInt32 >>> ((3 : Int32) &&& 31).toUInt32).toInt32)), .val (.ref b4), .unset, .unset, .unset] [(.int (2 : Int32)), (.ref b4)])) _
      refine XS.iload X22.here hx rfl (hb hby at_56) rfl ?_
      show Steps p.tables e below (T22.setTop (mkF m 58 #[.val (.int p1), .val (.int p2), .val (.int p3), .val (.int (p1 &&& (7 : Int32))), .val (.int ((p1.toUInt32 >>> ((3 : Int32) &&& 31).toUInt32).toInt32)), .val (.ref b4), .unset, .unset, .unset] [(.int ((p1.toUInt32 >>> ((3 : Int32) &&& 31).toUInt32).toInt32)), (.int (2 : Int32)), (.ref b4)])) _
      refine XS.iconst X22.here hx rfl (hb hby at_58) ?_
      show Steps p.tables e below (T22.setTop (mkF m 59 #[.val (.int p1), .val (.int p2), .val (.int p3), .val (.int (p1 &&& (7 : Int32))), .val (.int ((p1.toUInt32 >>> ((3 : Int32) &&& 31).toUInt32).toInt32)), .val (.ref b4), .unset, .unset, .unset] [(.int (2 : Int32)), (.int ((p1.toUInt32 >>> ((3 : Int32) &&& 31).toUInt32).toInt32)), (.int (2 : Int32)), (.ref b4)])) _
      refine XS.iloadN X22.here hx rfl (hb hby at_59) rfl ?_
      show Steps p.tables e below (T22.setTop (mkF m 60 #[.val (.int p1), .val (.int p2), .val (.int p3), .val (.int (p1 &&& (7 : Int32))), .val (.int ((p1.toUInt32 >>> ((3 : Int32) &&& 31).toUInt32).toInt32)), .val (.ref b4), .unset, .unset, .unset] [(.int p2), (.int (2 : Int32)), (.int ((p1.toUInt32 >>> ((3 : Int32) &&& 31).toUInt32).toInt32)), (.int (2 : Int32)), (.ref b4)])) _
      refine XS.bipush X22.here hx rfl (hb hby at_60) ?_
      show Steps p.tables e below (T22.setTop (mkF m 62 #[.val (.int p1), .val (.int p2), .val (.int p3), .val (.int (p1 &&& (7 : Int32))), .val (.int ((p1.toUInt32 >>> ((3 : Int32) &&& 31).toUInt32).toInt32)), .val (.ref b4), .unset, .unset, .unset] [(.int (8 : Int32)), (.int p2), (.int (2 : Int32)), (.int ((p1.toUInt32 >>> ((3 : Int32) &&& 31).toUInt32).toInt32)), (.int (2 : Int32)), (.ref b4)])) _
      refine st23 _ ?_
      show Steps p.tables e below (T23.setTop (mkF m 65 #[.val (.int p1), .val (.int p2), .val (.int p3), .val (.int (p1 &&& (7 : Int32))), .val (.int ((p1.toUInt32 >>> ((3 : Int32) &&& 31).toUInt32).toInt32)), .val (.ref b4), .unset, .unset, .unset] [(.int (f2 ((p1.toUInt32 >>> ((3 : Int32) &&& 31).toUInt32).toInt32) (2 : Int32) p2 (8 : Int32))), (.int (2 : Int32)), (.ref b4)])) _
      refine st24 _ ?_
      exact k
    · have eq12 := (show (f0_A_b4_66 p1 p2 p3) = (f0_A_b4_48 p1 p2 p3) from by unfold f0_A_b4_66; simp only [if_neg hc50])
      refine ⟨T22, _, h19, X22, e22, N22, c20, (by simp only [eq12]; exact c21), fun t k => ?_⟩
      try rw [eq12] at k
      refine pre9 t ?_
      show Steps p.tables e below (T22.setTop (mkF m 50 #[.val (.int p1), .val (.int p2), .val (.int p3), .val (.int (p1 &&& (7 : Int32))), .val (.int ((p1.toUInt32 >>> ((3 : Int32) &&& 31).toUInt32).toInt32)), .val (.ref b4), .unset, .unset, .unset] [(.int (2 : Int32)), (.int (p1 &&& (7 : Int32)))])) _
      refine XS.icmpYes X22.here hx rfl (pc0 := 50) (pc' := 66) rfl (hb hby at_50) rfl (flt hc50).2.2.2 (by decide) (by decide) ?_
      exact k
  have pre13 : ∀ t, Steps p.tables e below (T30.setTop (mkF m 68 #[.val (.int p1), .val (.int p2), .val (.int p3), .val (.int (p1 &&& (7 : Int32))), .val (.int ((p1.toUInt32 >>> ((3 : Int32) &&& 31).toUInt32).toInt32)), .val (.ref b4), .unset, .unset, .unset] [(.int (3 : Int32)), (.int (p1 &&& (7 : Int32)))])) t → Steps p.tables e below (s₁.setTop (entryFrame m #[(.int p1), (.int p2), (.int p3)] maxLocals)) t := by
    intro t k
    refine pre10 t ?_
    show Steps p.tables e below (T30.setTop (mkF m 66 #[.val (.int p1), .val (.int p2), .val (.int p3), .val (.int (p1 &&& (7 : Int32))), .val (.int ((p1.toUInt32 >>> ((3 : Int32) &&& 31).toUInt32).toInt32)), .val (.ref b4), .unset, .unset, .unset] [])) _
    refine XS.iloadN X30.here hx rfl (hb hby at_66) rfl ?_
    show Steps p.tables e below (T30.setTop (mkF m 67 #[.val (.int p1), .val (.int p2), .val (.int p3), .val (.int (p1 &&& (7 : Int32))), .val (.int ((p1.toUInt32 >>> ((3 : Int32) &&& 31).toUInt32).toInt32)), .val (.ref b4), .unset, .unset, .unset] [(.int (p1 &&& (7 : Int32)))])) _
    refine XS.iconst X30.here hx rfl (hb hby at_67) ?_
    exact k
  obtain ⟨T38, Lmpre14, h35, X38, e38, N38, c36, c37, pre14⟩ : ∃ (T' : State) (L' : List Loc) (h35 : Heap), Stand p l e room_1 s m #[(.int p1), (.int p2), (.int p3)] below meth c T' L' 1 7 ∧ T'.heap = h35 ∧ Fr n0 L' ∧ n0 ≤ h35.size ∧ IAr Z h35 b4 .byte (p1 &&& (7 : Int32)) (f0_A_b4_83 p1 p2 p3) ∧ ∀ t, Steps p.tables e below (T'.setTop (mkF m 83 #[.val (.int p1), .val (.int p2), .val (.int p3), .val (.int (p1 &&& (7 : Int32))), .val (.int ((p1.toUInt32 >>> ((3 : Int32) &&& 31).toUInt32).toInt32)), .val (.ref b4), .unset, .unset, .unset] [])) t → Steps p.tables e below (s₁.setTop (entryFrame m #[(.int p1), (.int p2), (.int p3)] maxLocals)) t := by
    by_cases hc68 : (3 : Int32) < (p1 &&& (7 : Int32))
    · obtain ⟨_, _, ⟨T31, L31, k31, n31⟩, -, X31, ⟨Lc31, hQ31, l31, y31, z31⟩, st31⟩ := Jvm.LawKit.callS X30 hx (y := (⟨"com/example/weaverbird/weaverbird/format/BinaryXmlParserIsBinaryXmlPinLaw", "pick", "(IIII)B"⟩ : MethodName)) hown (mvT hZ (hw _ (List.mem_of_getElem? (i := 5) rfl))) (mvT hZ (hw _ (List.mem_of_getElem? (i := 6) rfl))) (mvT hZ (hw _ (List.mem_of_getElem? (i := 7) rfl))) (mvT hZ (hw _ (List.mem_of_getElem? (i := 8) rfl))) (by decide) (backOf (W := 2) (rm2 l Z a0 hw [] ((p1.toUInt32 >>> ((3 : Int32) &&& 31).toUInt32).toInt32) (3 : Int32) p2 (0 : Int32) h27 n0 c28 ) hZ (hw _ (List.mem_of_getElem? (i := 8) rfl)) (hw _ (List.mem_of_getElem? (i := 7) rfl)) (by decide) (by decide)) (g := (mkF m 79 #[.val (.int p1), .val (.int p2), .val (.int p3), .val (.int (p1 &&& (7 : Int32))), .val (.int ((p1.toUInt32 >>> ((3 : Int32) &&& 31).toUInt32).toInt32)), .val (.ref b4), .unset, .unset, .unset] [(.int (0 : Int32)), (.int p2), (.int (3 : Int32)), (.int ((p1.toUInt32 >>> ((3 : Int32) &&& 31).toUInt32).toInt32)), (.int (3 : Int32)), (.ref b4)])) rfl (by rw [hml]; rfl) (argsL := [(.int ((p1.toUInt32 >>> ((3 : Int32) &&& 31).toUInt32).toInt32)), (.int (3 : Int32)), (.int p2), (.int (0 : Int32))]) (rest := [(.int (3 : Int32)), (.ref b4)]) (lenOf pd_0 rfl) rfl (by show 2 * 0 + _ ≤ _; exact Nat.le_of_eq rfl) (hb hby at_79) (fun _ _ => ⟨rfl, e30, (by decide : 1 + 0 ≤ _), (by decide : 7 + 0 ≤ _)⟩)
      dsimp only [Pt.U, Pt.locs, Pt.cells, Pt.slots] at X31 l31 y31 z31 st31 hQ31
      subst l31 y31 z31
      obtain ⟨rfl, N31q, e31⟩ := hQ31
      have N31 := Fr.app N30 N31q
      obtain ⟨T32, h32, X32, e32, W32, V32, st32⟩ := sB X31 hx hZ e31 c29 (j := (3 : Int32)) ⟨by decide, by first | decide | assumption⟩ (g := (mkF m 82 #[.val (.int p1), .val (.int p2), .val (.int p3), .val (.int (p1 &&& (7 : Int32))), .val (.int ((p1.toUInt32 >>> ((3 : Int32) &&& 31).toUInt32).toInt32)), .val (.ref b4), .unset, .unset, .unset] [(.int (f2 ((p1.toUInt32 >>> ((3 : Int32) &&& 31).toUInt32).toInt32) (3 : Int32) p2 (0 : Int32))), (.int (3 : Int32)), (.ref b4)])) rfl rfl (hb hby at_82)
      have N32 := Fr.snoc X32 N31 g_b4
      have c33 : n0 ≤ h32.size := Nat.le_trans c28 (Keep.of_wr W32).1
      have c34 : IAr Z h32 b4 .byte (p1 &&& (7 : Int32)) (f0_v82 p1 p2 p3) := V32
      have eq15 := (show (f0_A_b4_83 p1 p2 p3) = (f0_v82 p1 p2 p3) from by unfold f0_A_b4_83; simp only [if_pos hc68])
      refine ⟨T32, _, h32, X32, e32, N32, c33, (by simp only [eq15]; exact c34), fun t k => ?_⟩
      try rw [eq15] at k
      refine pre13 t ?_
      show Steps p.tables e below (T30.setTop (mkF m 68 #[.val (.int p1), .val (.int p2), .val (.int p3), .val (.int (p1 &&& (7 : Int32))), .val (.int ((p1.toUInt32 >>> ((3 : Int32) &&& 31).toUInt32).toInt32)), .val (.ref b4), .unset, .unset, .unset] [(.int (3 : Int32)), (.int (p1 &&& (7 : Int32)))])) _
      refine XS.icmpNo X30.here hx rfl (hb hby at_68) rfl (tlt hc68).2.2.2 ?_
      show Steps p.tables e below (T30.setTop (mkF m 71 #[.val (.int p1), .val (.int p2), .val (.int p3), .val (.int (p1 &&& (7 : Int32))), .val (.int ((p1.toUInt32 >>> ((3 : Int32) &&& 31).toUInt32).toInt32)), .val (.ref b4), .unset, .unset, .unset] [])) _
      refine XS.aload X30.here hx rfl (hb hby at_71) rfl rfl ?_
      show Steps p.tables e below (T30.setTop (mkF m 73 #[.val (.int p1), .val (.int p2), .val (.int p3), .val (.int (p1 &&& (7 : Int32))), .val (.int ((p1.toUInt32 >>> ((3 : Int32) &&& 31).toUInt32).toInt32)), .val (.ref b4), .unset, .unset, .unset] [(.ref b4)])) _
      refine XS.iconst X30.here hx rfl (hb hby at_73) ?_
      show Steps p.tables e below (T30.setTop (mkF m 74 #[.val (.int p1), .val (.int p2), .val (.int p3), .val (.int (p1 &&& (7 : Int32))), .val (.int ((p1.toUInt32 >>> ((3 : Int32) &&& 31).toUInt32).toInt32)), .val (.ref b4), .unset, .unset, .unset] [(.int (3 : Int32)), (.ref b4)])) _
      refine XS.iload X30.here hx rfl (hb hby at_74) rfl ?_
      show Steps p.tables e below (T30.setTop (mkF m 76 #[.val (.int p1), .val (.int p2), .val (.int p3), .val (.int (p1 &&& (7 : Int32))), .val (.int ((p1.toUInt32 >>> ((3 : Int32) &&& 31).toUInt32).toInt32)), .val (.ref b4), .unset, .unset, .unset] [(.int ((p1.toUInt32 >>> ((3 : Int32) &&& 31).toUInt32).toInt32)), (.int (3 : Int32)), (.ref b4)])) _
      refine XS.iconst X30.here hx rfl (hb hby at_76) ?_
      show Steps p.tables e below (T30.setTop (mkF m 77 #[.val (.int p1), .val (.int p2), .val (.int p3), .val (.int (p1 &&& (7 : Int32))), .val (.int ((p1.toUInt32 >>> ((3 : Int32) &&& 31).toUInt32).toInt32)), .val (.ref b4), .unset, .unset, .unset] [(.int (3 : Int32)), (.int ((p1.toUInt32 >>> ((3 : Int32) &&& 31).toUInt32).toInt32)), (.int (3 : Int32)), (.ref b4)])) _
      refine XS.iloadN X30.here hx rfl (hb hby at_77) rfl ?_
      show Steps p.tables e below (T30.setTop (mkF m 78 #[.val (.int p1), .val (.int p2), .val (.int p3), .val (.int (p1 &&& (7 : Int32))), .val (.int ((p1.toUInt32 >>> ((3 : Int32) &&& 31).toUInt32).toInt32)), .val (.ref b4), .unset, .unset, .unset] [(.int p2), (.int (3 : Int32)), (.int ((p1.toUInt32 >>> ((3 : Int32) &&& 31).toUInt32).toInt32)), (.int (3 : Int32)), (.ref b4)])) _
      refine XS.iconst X30.here hx rfl (hb hby at_78) ?_
      show Steps p.tables e below (T30.setTop (mkF m 79 #[.val (.int p1), .val (.int p2), .val (.int p3), .val (.int (p1 &&& (7 : Int32))), .val (.int ((p1.toUInt32 >>> ((3 : Int32) &&& 31).toUInt32).toInt32)), .val (.ref b4), .unset, .unset, .unset] [(.int (0 : Int32)), (.int p2), (.int (3 : Int32)), (.int ((p1.toUInt32 >>> ((3 : Int32) &&& 31).toUInt32).toInt32)), (.int (3 : Int32)), (.ref b4)])) _
      refine st31 _ ?_
      show Steps p.tables e below (T31.setTop (mkF m 82 #[.val (.int p1), .val (.int p2), .val (.int p3), .val (.int (p1 &&& (7 : Int32))), .val (.int ((p1.toUInt32 >>> ((3 : Int32) &&& 31).toUInt32).toInt32)), .val (.ref b4), .unset, .unset, .unset] [(.int (f2 ((p1.toUInt32 >>> ((3 : Int32) &&& 31).toUInt32).toInt32) (3 : Int32) p2 (0 : Int32))), (.int (3 : Int32)), (.ref b4)])) _
      refine st32 _ ?_
      exact k
    · have eq16 := (show (f0_A_b4_83 p1 p2 p3) = (f0_A_b4_66 p1 p2 p3) from by unfold f0_A_b4_83; simp only [if_neg hc68])
      refine ⟨T30, _, h27, X30, e30, N30, c28, (by simp only [eq16]; exact c29), fun t k => ?_⟩
      try rw [eq16] at k
      refine pre13 t ?_
      show Steps p.tables e below (T30.setTop (mkF m 68 #[.val (.int p1), .val (.int p2), .val (.int p3), .val (.int (p1 &&& (7 : Int32))), .val (.int ((p1.toUInt32 >>> ((3 : Int32) &&& 31).toUInt32).toInt32)), .val (.ref b4), .unset, .unset, .unset] [(.int (3 : Int32)), (.int (p1 &&& (7 : Int32)))])) _
      refine XS.icmpYes X30.here hx rfl (pc0 := 68) (pc' := 83) rfl (hb hby at_68) rfl (flt hc68).2.2.2 (by decide) (by decide) ?_
      exact k
  have pre17 : ∀ t, Steps p.tables e below (T38.setTop (mkF m 85 #[.val (.int p1), .val (.int p2), .val (.int p3), .val (.int (p1 &&& (7 : Int32))), .val (.int ((p1.toUInt32 >>> ((3 : Int32) &&& 31).toUInt32).toInt32)), .val (.ref b4), .unset, .unset, .unset] [(.int (4 : Int32)), (.int (p1 &&& (7 : Int32)))])) t → Steps p.tables e below (s₁.setTop (entryFrame m #[(.int p1), (.int p2), (.int p3)] maxLocals)) t := by
    intro t k
    refine pre14 t ?_
    show Steps p.tables e below (T38.setTop (mkF m 83 #[.val (.int p1), .val (.int p2), .val (.int p3), .val (.int (p1 &&& (7 : Int32))), .val (.int ((p1.toUInt32 >>> ((3 : Int32) &&& 31).toUInt32).toInt32)), .val (.ref b4), .unset, .unset, .unset] [])) _
    refine XS.iloadN X38.here hx rfl (hb hby at_83) rfl ?_
    show Steps p.tables e below (T38.setTop (mkF m 84 #[.val (.int p1), .val (.int p2), .val (.int p3), .val (.int (p1 &&& (7 : Int32))), .val (.int ((p1.toUInt32 >>> ((3 : Int32) &&& 31).toUInt32).toInt32)), .val (.ref b4), .unset, .unset, .unset] [(.int (p1 &&& (7 : Int32)))])) _
    refine XS.iconst X38.here hx rfl (hb hby at_84) ?_
    exact k
  obtain ⟨T45, Lmpre18, h42, X45, e45, N45, c43, c44, pre18⟩ : ∃ (T' : State) (L' : List Loc) (h42 : Heap), Stand p l e room_1 s m #[(.int p1), (.int p2), (.int p3)] below meth c T' L' 1 7 ∧ T'.heap = h42 ∧ Fr n0 L' ∧ n0 ≤ h42.size ∧ IAr Z h42 b4 .byte (p1 &&& (7 : Int32)) (f0_A_b4_94 p1 p2 p3) ∧ ∀ t, Steps p.tables e below (T'.setTop (mkF m 94 #[.val (.int p1), .val (.int p2), .val (.int p3), .val (.int (p1 &&& (7 : Int32))), .val (.int ((p1.toUInt32 >>> ((3 : Int32) &&& 31).toUInt32).toInt32)), .val (.ref b4), .unset, .unset, .unset] [])) t → Steps p.tables e below (s₁.setTop (entryFrame m #[(.int p1), (.int p2), (.int p3)] maxLocals)) t := by
    by_cases hc85 : (4 : Int32) < (p1 &&& (7 : Int32))
    · obtain ⟨T39, h39, X39, e39, W39, V39, st39⟩ := sB X38 hx hZ e38 c37 (j := (4 : Int32)) ⟨by decide, by first | decide | assumption⟩ (g := (mkF m 93 #[.val (.int p1), .val (.int p2), .val (.int p3), .val (.int (p1 &&& (7 : Int32))), .val (.int ((p1.toUInt32 >>> ((3 : Int32) &&& 31).toUInt32).toInt32)), .val (.ref b4), .unset, .unset, .unset] [(.int (p3.toInt8.toInt32)), (.int (4 : Int32)), (.ref b4)])) rfl rfl (hb hby at_93)
      have N39 := Fr.snoc X39 N38 g_b4
      have c40 : n0 ≤ h39.size := Nat.le_trans c36 (Keep.of_wr W39).1
      have c41 : IAr Z h39 b4 .byte (p1 &&& (7 : Int32)) (f0_v93 p1 p2 p3) := V39
      have eq19 := (show (f0_A_b4_94 p1 p2 p3) = (f0_v93 p1 p2 p3) from by unfold f0_A_b4_94; simp only [if_pos hc85])
      refine ⟨T39, _, h39, X39, e39, N39, c40, (by simp only [eq19]; exact c41), fun t k => ?_⟩
      try rw [eq19] at k
      refine pre17 t ?_
      show Steps p.tables e below (T38.setTop (mkF m 85 #[.val (.int p1), .val (.int p2), .val (.int p3), .val (.int (p1 &&& (7 : Int32))), .val (.int ((p1.toUInt32 >>> ((3 : Int32) &&& 31).toUInt32).toInt32)), .val (.ref b4), .unset, .unset, .unset] [(.int (4 : Int32)), (.int (p1 &&& (7 : Int32)))])) _
      refine XS.icmpNo X38.here hx rfl (hb hby at_85) rfl (tlt hc85).2.2.2 ?_
      show Steps p.tables e below (T38.setTop (mkF m 88 #[.val (.int p1), .val (.int p2), .val (.int p3), .val (.int (p1 &&& (7 : Int32))), .val (.int ((p1.toUInt32 >>> ((3 : Int32) &&& 31).toUInt32).toInt32)), .val (.ref b4), .unset, .unset, .unset] [])) _
      refine XS.aload X38.here hx rfl (hb hby at_88) rfl rfl ?_
      show Steps p.tables e below (T38.setTop (mkF m 90 #[.val (.int p1), .val (.int p2), .val (.int p3), .val (.int (p1 &&& (7 : Int32))), .val (.int ((p1.toUInt32 >>> ((3 : Int32) &&& 31).toUInt32).toInt32)), .val (.ref b4), .unset, .unset, .unset] [(.ref b4)])) _
      refine XS.iconst X38.here hx rfl (hb hby at_90) ?_
      show Steps p.tables e below (T38.setTop (mkF m 91 #[.val (.int p1), .val (.int p2), .val (.int p3), .val (.int (p1 &&& (7 : Int32))), .val (.int ((p1.toUInt32 >>> ((3 : Int32) &&& 31).toUInt32).toInt32)), .val (.ref b4), .unset, .unset, .unset] [(.int (4 : Int32)), (.ref b4)])) _
      refine XS.iloadN X38.here hx rfl (hb hby at_91) rfl ?_
      show Steps p.tables e below (T38.setTop (mkF m 92 #[.val (.int p1), .val (.int p2), .val (.int p3), .val (.int (p1 &&& (7 : Int32))), .val (.int ((p1.toUInt32 >>> ((3 : Int32) &&& 31).toUInt32).toInt32)), .val (.ref b4), .unset, .unset, .unset] [(.int p3), (.int (4 : Int32)), (.ref b4)])) _
      refine XS.i2b X38.here hx rfl (hb hby at_92) rfl ?_
      show Steps p.tables e below (T38.setTop (mkF m 93 #[.val (.int p1), .val (.int p2), .val (.int p3), .val (.int (p1 &&& (7 : Int32))), .val (.int ((p1.toUInt32 >>> ((3 : Int32) &&& 31).toUInt32).toInt32)), .val (.ref b4), .unset, .unset, .unset] [(.int (p3.toInt8.toInt32)), (.int (4 : Int32)), (.ref b4)])) _
      refine st39 _ ?_
      exact k
    · have eq20 := (show (f0_A_b4_94 p1 p2 p3) = (f0_A_b4_83 p1 p2 p3) from by unfold f0_A_b4_94; simp only [if_neg hc85])
      refine ⟨T38, _, h35, X38, e38, N38, c36, (by simp only [eq20]; exact c37), fun t k => ?_⟩
      try rw [eq20] at k
      refine pre17 t ?_
      show Steps p.tables e below (T38.setTop (mkF m 85 #[.val (.int p1), .val (.int p2), .val (.int p3), .val (.int (p1 &&& (7 : Int32))), .val (.int ((p1.toUInt32 >>> ((3 : Int32) &&& 31).toUInt32).toInt32)), .val (.ref b4), .unset, .unset, .unset] [(.int (4 : Int32)), (.int (p1 &&& (7 : Int32)))])) _
      refine XS.icmpYes X38.here hx rfl (pc0 := 85) (pc' := 94) rfl (hb hby at_85) rfl (flt hc85).2.2.2 (by decide) (by decide) ?_
      exact k
  have pre21 : ∀ t, Steps p.tables e below (T45.setTop (mkF m 96 #[.val (.int p1), .val (.int p2), .val (.int p3), .val (.int (p1 &&& (7 : Int32))), .val (.int ((p1.toUInt32 >>> ((3 : Int32) &&& 31).toUInt32).toInt32)), .val (.ref b4), .unset, .unset, .unset] [(.int (5 : Int32)), (.int (p1 &&& (7 : Int32)))])) t → Steps p.tables e below (s₁.setTop (entryFrame m #[(.int p1), (.int p2), (.int p3)] maxLocals)) t := by
    intro t k
    refine pre18 t ?_
    show Steps p.tables e below (T45.setTop (mkF m 94 #[.val (.int p1), .val (.int p2), .val (.int p3), .val (.int (p1 &&& (7 : Int32))), .val (.int ((p1.toUInt32 >>> ((3 : Int32) &&& 31).toUInt32).toInt32)), .val (.ref b4), .unset, .unset, .unset] [])) _
    refine XS.iloadN X45.here hx rfl (hb hby at_94) rfl ?_
    show Steps p.tables e below (T45.setTop (mkF m 95 #[.val (.int p1), .val (.int p2), .val (.int p3), .val (.int (p1 &&& (7 : Int32))), .val (.int ((p1.toUInt32 >>> ((3 : Int32) &&& 31).toUInt32).toInt32)), .val (.ref b4), .unset, .unset, .unset] [(.int (p1 &&& (7 : Int32)))])) _
    refine XS.iconst X45.here hx rfl (hb hby at_95) ?_
    exact k
  obtain ⟨T52, Lmpre22, h49, X52, e52, N52, c50, c51, pre22⟩ : ∃ (T' : State) (L' : List Loc) (h49 : Heap), Stand p l e room_1 s m #[(.int p1), (.int p2), (.int p3)] below meth c T' L' 1 7 ∧ T'.heap = h49 ∧ Fr n0 L' ∧ n0 ≤ h49.size ∧ IAr Z h49 b4 .byte (p1 &&& (7 : Int32)) (f0_A_b4_108 p1 p2 p3) ∧ ∀ t, Steps p.tables e below (T'.setTop (mkF m 108 #[.val (.int p1), .val (.int p2), .val (.int p3), .val (.int (p1 &&& (7 : Int32))), .val (.int ((p1.toUInt32 >>> ((3 : Int32) &&& 31).toUInt32).toInt32)), .val (.ref b4), .unset, .unset, .unset] [])) t → Steps p.tables e below (s₁.setTop (entryFrame m #[(.int p1), (.int p2), (.int p3)] maxLocals)) t := by
    by_cases hc96 : (5 : Int32) < (p1 &&& (7 : Int32))
    · obtain ⟨T46, h46, X46, e46, W46, V46, st46⟩ := sB X45 hx hZ e45 c44 (j := (5 : Int32)) ⟨by decide, by first | decide | assumption⟩ (g := (mkF m 107 #[.val (.int p1), .val (.int p2), .val (.int p3), .val (.int (p1 &&& (7 : Int32))), .val (.int ((p1.toUInt32 >>> ((3 : Int32) &&& 31).toUInt32).toInt32)), .val (.ref b4), .unset, .unset, .unset] [(.int ((p3 >>> ((8 : Int32) &&& 31)).toInt8.toInt32)), (.int (5 : Int32)), (.ref b4)])) rfl rfl (hb hby at_107)
      have N46 := Fr.snoc X46 N45 g_b4
      have c47 : n0 ≤ h46.size := Nat.le_trans c43 (Keep.of_wr W46).1
      have c48 : IAr Z h46 b4 .byte (p1 &&& (7 : Int32)) (f0_v107 p1 p2 p3) := V46
      have eq23 := (show (f0_A_b4_108 p1 p2 p3) = (f0_v107 p1 p2 p3) from by unfold f0_A_b4_108; simp only [if_pos hc96])
      refine ⟨T46, _, h46, X46, e46, N46, c47, (by simp only [eq23]; exact c48), fun t k => ?_⟩
      try rw [eq23] at k
      refine pre21 t ?_
      show Steps p.tables e below (T45.setTop (mkF m 96 #[.val (.int p1), .val (.int p2), .val (.int p3), .val (.int (p1 &&& (7 : Int32))), .val (.int ((p1.toUInt32 >>> ((3 : Int32) &&& 31).toUInt32).toInt32)), .val (.ref b4), .unset, .unset, .unset] [(.int (5 : Int32)), (.int (p1 &&& (7 : Int32)))])) _
      refine XS.icmpNo X45.here hx rfl (hb hby at_96) rfl (tlt hc96).2.2.2 ?_
      show Steps p.tables e below (T45.setTop (mkF m 99 #[.val (.int p1), .val (.int p2), .val (.int p3), .val (.int (p1 &&& (7 : Int32))), .val (.int ((p1.toUInt32 >>> ((3 : Int32) &&& 31).toUInt32).toInt32)), .val (.ref b4), .unset, .unset, .unset] [])) _
      refine XS.aload X45.here hx rfl (hb hby at_99) rfl rfl ?_
      show Steps p.tables e below (T45.setTop (mkF m 101 #[.val (.int p1), .val (.int p2), .val (.int p3), .val (.int (p1 &&& (7 : Int32))), .val (.int ((p1.toUInt32 >>> ((3 : Int32) &&& 31).toUInt32).toInt32)), .val (.ref b4), .unset, .unset, .unset] [(.ref b4)])) _
      refine XS.iconst X45.here hx rfl (hb hby at_101) ?_
      show Steps p.tables e below (T45.setTop (mkF m 102 #[.val (.int p1), .val (.int p2), .val (.int p3), .val (.int (p1 &&& (7 : Int32))), .val (.int ((p1.toUInt32 >>> ((3 : Int32) &&& 31).toUInt32).toInt32)), .val (.ref b4), .unset, .unset, .unset] [(.int (5 : Int32)), (.ref b4)])) _
      refine XS.iloadN X45.here hx rfl (hb hby at_102) rfl ?_
      show Steps p.tables e below (T45.setTop (mkF m 103 #[.val (.int p1), .val (.int p2), .val (.int p3), .val (.int (p1 &&& (7 : Int32))), .val (.int ((p1.toUInt32 >>> ((3 : Int32) &&& 31).toUInt32).toInt32)), .val (.ref b4), .unset, .unset, .unset] [(.int p3), (.int (5 : Int32)), (.ref b4)])) _
      refine XS.bipush X45.here hx rfl (hb hby at_103) ?_
      show Steps p.tables e below (T45.setTop (mkF m 105 #[.val (.int p1), .val (.int p2), .val (.int p3), .val (.int (p1 &&& (7 : Int32))), .val (.int ((p1.toUInt32 >>> ((3 : Int32) &&& 31).toUInt32).toInt32)), .val (.ref b4), .unset, .unset, .unset] [(.int (8 : Int32)), (.int p3), (.int (5 : Int32)), (.ref b4)])) _
      refine XS.ishr X45.here hx rfl (hb hby at_105) rfl ?_
      show Steps p.tables e below (T45.setTop (mkF m 106 #[.val (.int p1), .val (.int p2), .val (.int p3), .val (.int (p1 &&& (7 : Int32))), .val (.int ((p1.toUInt32 >>> ((3 : Int32) &&& 31).toUInt32).toInt32)), .val (.ref b4), .unset, .unset, .unset] [(.int (p3 >>> ((8 : Int32) &&& 31))), (.int (5 : Int32)), (.ref b4)])) _
      refine XS.i2b X45.here hx rfl (hb hby at_106) rfl ?_
      show Steps p.tables e below (T45.setTop (mkF m 107 #[.val (.int p1), .val (.int p2), .val (.int p3), .val (.int (p1 &&& (7 : Int32))), .val (.int ((p1.toUInt32 >>> ((3 : Int32) &&& 31).toUInt32).toInt32)), .val (.ref b4), .unset, .unset, .unset] [(.int ((p3 >>> ((8 : Int32) &&& 31)).toInt8.toInt32)), (.int (5 : Int32)), (.ref b4)])) _
      refine st46 _ ?_
      exact k
    · have eq24 := (show (f0_A_b4_108 p1 p2 p3) = (f0_A_b4_94 p1 p2 p3) from by unfold f0_A_b4_108; simp only [if_neg hc96])
      refine ⟨T45, _, h42, X45, e45, N45, c43, (by simp only [eq24]; exact c44), fun t k => ?_⟩
      try rw [eq24] at k
      refine pre21 t ?_
      show Steps p.tables e below (T45.setTop (mkF m 96 #[.val (.int p1), .val (.int p2), .val (.int p3), .val (.int (p1 &&& (7 : Int32))), .val (.int ((p1.toUInt32 >>> ((3 : Int32) &&& 31).toUInt32).toInt32)), .val (.ref b4), .unset, .unset, .unset] [(.int (5 : Int32)), (.int (p1 &&& (7 : Int32)))])) _
      refine XS.icmpYes X45.here hx rfl (pc0 := 96) (pc' := 108) rfl (hb hby at_96) rfl (flt hc96).2.2.2 (by decide) (by decide) ?_
      exact k
  have pre25 : ∀ t, Steps p.tables e below (T52.setTop (mkF m 111 #[.val (.int p1), .val (.int p2), .val (.int p3), .val (.int (p1 &&& (7 : Int32))), .val (.int ((p1.toUInt32 >>> ((3 : Int32) &&& 31).toUInt32).toInt32)), .val (.ref b4), .unset, .unset, .unset] [(.int (6 : Int32)), (.int (p1 &&& (7 : Int32)))])) t → Steps p.tables e below (s₁.setTop (entryFrame m #[(.int p1), (.int p2), (.int p3)] maxLocals)) t := by
    intro t k
    refine pre22 t ?_
    show Steps p.tables e below (T52.setTop (mkF m 108 #[.val (.int p1), .val (.int p2), .val (.int p3), .val (.int (p1 &&& (7 : Int32))), .val (.int ((p1.toUInt32 >>> ((3 : Int32) &&& 31).toUInt32).toInt32)), .val (.ref b4), .unset, .unset, .unset] [])) _
    refine XS.iloadN X52.here hx rfl (hb hby at_108) rfl ?_
    show Steps p.tables e below (T52.setTop (mkF m 109 #[.val (.int p1), .val (.int p2), .val (.int p3), .val (.int (p1 &&& (7 : Int32))), .val (.int ((p1.toUInt32 >>> ((3 : Int32) &&& 31).toUInt32).toInt32)), .val (.ref b4), .unset, .unset, .unset] [(.int (p1 &&& (7 : Int32)))])) _
    refine XS.bipush X52.here hx rfl (hb hby at_109) ?_
    exact k
  obtain ⟨T59, Lmpre26, h56, X59, e59, N59, c57, c58, pre26⟩ : ∃ (T' : State) (L' : List Loc) (h56 : Heap), Stand p l e room_1 s m #[(.int p1), (.int p2), (.int p3)] below meth c T' L' 1 7 ∧ T'.heap = h56 ∧ Fr n0 L' ∧ n0 ≤ h56.size ∧ IAr Z h56 b4 .byte (p1 &&& (7 : Int32)) (f0_A_b4_124 p1 p2 p3) ∧ ∀ t, Steps p.tables e below (T'.setTop (mkF m 124 #[.val (.int p1), .val (.int p2), .val (.int p3), .val (.int (p1 &&& (7 : Int32))), .val (.int ((p1.toUInt32 >>> ((3 : Int32) &&& 31).toUInt32).toInt32)), .val (.ref b4), .unset, .unset, .unset] [])) t → Steps p.tables e below (s₁.setTop (entryFrame m #[(.int p1), (.int p2), (.int p3)] maxLocals)) t := by
    by_cases hc111 : (6 : Int32) < (p1 &&& (7 : Int32))
    · obtain ⟨T53, h53, X53, e53, W53, V53, st53⟩ := sB X52 hx hZ e52 c51 (j := (6 : Int32)) ⟨by decide, by first | decide | assumption⟩ (g := (mkF m 123 #[.val (.int p1), .val (.int p2), .val (.int p3), .val (.int (p1 &&& (7 : Int32))), .val (.int ((p1.toUInt32 >>> ((3 : Int32) &&& 31).toUInt32).toInt32)), .val (.ref b4), .unset, .unset, .unset] [(.int ((p3 >>> ((16 : Int32) &&& 31)).toInt8.toInt32)), (.int (6 : Int32)), (.ref b4)])) rfl rfl (hb hby at_123)
      have N53 := Fr.snoc X53 N52 g_b4
      have c54 : n0 ≤ h53.size := Nat.le_trans c50 (Keep.of_wr W53).1
      have c55 : IAr Z h53 b4 .byte (p1 &&& (7 : Int32)) (f0_v123 p1 p2 p3) := V53
      have eq27 := (show (f0_A_b4_124 p1 p2 p3) = (f0_v123 p1 p2 p3) from by unfold f0_A_b4_124; simp only [if_pos hc111])
      refine ⟨T53, _, h53, X53, e53, N53, c54, (by simp only [eq27]; exact c55), fun t k => ?_⟩
      try rw [eq27] at k
      refine pre25 t ?_
      show Steps p.tables e below (T52.setTop (mkF m 111 #[.val (.int p1), .val (.int p2), .val (.int p3), .val (.int (p1 &&& (7 : Int32))), .val (.int ((p1.toUInt32 >>> ((3 : Int32) &&& 31).toUInt32).toInt32)), .val (.ref b4), .unset, .unset, .unset] [(.int (6 : Int32)), (.int (p1 &&& (7 : Int32)))])) _
      refine XS.icmpNo X52.here hx rfl (hb hby at_111) rfl (tlt hc111).2.2.2 ?_
      show Steps p.tables e below (T52.setTop (mkF m 114 #[.val (.int p1), .val (.int p2), .val (.int p3), .val (.int (p1 &&& (7 : Int32))), .val (.int ((p1.toUInt32 >>> ((3 : Int32) &&& 31).toUInt32).toInt32)), .val (.ref b4), .unset, .unset, .unset] [])) _
      refine XS.aload X52.here hx rfl (hb hby at_114) rfl rfl ?_
      show Steps p.tables e below (T52.setTop (mkF m 116 #[.val (.int p1), .val (.int p2), .val (.int p3), .val (.int (p1 &&& (7 : Int32))), .val (.int ((p1.toUInt32 >>> ((3 : Int32) &&& 31).toUInt32).toInt32)), .val (.ref b4), .unset, .unset, .unset] [(.ref b4)])) _
      refine XS.bipush X52.here hx rfl (hb hby at_116) ?_
      show Steps p.tables e below (T52.setTop (mkF m 118 #[.val (.int p1), .val (.int p2), .val (.int p3), .val (.int (p1 &&& (7 : Int32))), .val (.int ((p1.toUInt32 >>> ((3 : Int32) &&& 31).toUInt32).toInt32)), .val (.ref b4), .unset, .unset, .unset] [(.int (6 : Int32)), (.ref b4)])) _
      refine XS.iloadN X52.here hx rfl (hb hby at_118) rfl ?_
      show Steps p.tables e below (T52.setTop (mkF m 119 #[.val (.int p1), .val (.int p2), .val (.int p3), .val (.int (p1 &&& (7 : Int32))), .val (.int ((p1.toUInt32 >>> ((3 : Int32) &&& 31).toUInt32).toInt32)), .val (.ref b4), .unset, .unset, .unset] [(.int p3), (.int (6 : Int32)), (.ref b4)])) _
      refine XS.bipush X52.here hx rfl (hb hby at_119) ?_
      show Steps p.tables e below (T52.setTop (mkF m 121 #[.val (.int p1), .val (.int p2), .val (.int p3), .val (.int (p1 &&& (7 : Int32))), .val (.int ((p1.toUInt32 >>> ((3 : Int32) &&& 31).toUInt32).toInt32)), .val (.ref b4), .unset, .unset, .unset] [(.int (16 : Int32)), (.int p3), (.int (6 : Int32)), (.ref b4)])) _
      refine XS.ishr X52.here hx rfl (hb hby at_121) rfl ?_
      show Steps p.tables e below (T52.setTop (mkF m 122 #[.val (.int p1), .val (.int p2), .val (.int p3), .val (.int (p1 &&& (7 : Int32))), .val (.int ((p1.toUInt32 >>> ((3 : Int32) &&& 31).toUInt32).toInt32)), .val (.ref b4), .unset, .unset, .unset] [(.int (p3 >>> ((16 : Int32) &&& 31))), (.int (6 : Int32)), (.ref b4)])) _
      refine XS.i2b X52.here hx rfl (hb hby at_122) rfl ?_
      show Steps p.tables e below (T52.setTop (mkF m 123 #[.val (.int p1), .val (.int p2), .val (.int p3), .val (.int (p1 &&& (7 : Int32))), .val (.int ((p1.toUInt32 >>> ((3 : Int32) &&& 31).toUInt32).toInt32)), .val (.ref b4), .unset, .unset, .unset] [(.int ((p3 >>> ((16 : Int32) &&& 31)).toInt8.toInt32)), (.int (6 : Int32)), (.ref b4)])) _
      refine st53 _ ?_
      exact k
    · have eq28 := (show (f0_A_b4_124 p1 p2 p3) = (f0_A_b4_108 p1 p2 p3) from by unfold f0_A_b4_124; simp only [if_neg hc111])
      refine ⟨T52, _, h49, X52, e52, N52, c50, (by simp only [eq28]; exact c51), fun t k => ?_⟩
      try rw [eq28] at k
      refine pre25 t ?_
      show Steps p.tables e below (T52.setTop (mkF m 111 #[.val (.int p1), .val (.int p2), .val (.int p3), .val (.int (p1 &&& (7 : Int32))), .val (.int ((p1.toUInt32 >>> ((3 : Int32) &&& 31).toUInt32).toInt32)), .val (.ref b4), .unset, .unset, .unset] [(.int (6 : Int32)), (.int (p1 &&& (7 : Int32)))])) _
      refine XS.icmpYes X52.here hx rfl (pc0 := 111) (pc' := 124) rfl (hb hby at_111) rfl (flt hc111).2.2.2 (by decide) (by decide) ?_
      exact k
  obtain ⟨_, _, ⟨T60, L60, k60, n60⟩, -, X60, ⟨Lc60, hQ60, l60, y60, z60⟩, st60⟩ := Jvm.LawKit.callS X59 hx (y := (⟨"com/example/weaverbird/weaverbird/format/BinaryXmlParser", "isBinaryXml", "([B)Z"⟩ : MethodName)) hown (mvT hZ (hw _ (List.mem_of_getElem? (i := 1) rfl))) (mvT hZ (hw _ (List.mem_of_getElem? (i := 2) rfl))) (mvT hZ (hw _ (List.mem_of_getElem? (i := 3) rfl))) (mvT hZ (hw _ (List.mem_of_getElem? (i := 4) rfl))) (by decide) (backOf (W := 0) (rm1 l Z a0 hw [] b4 (p1 &&& (7 : Int32)) (f0_A_b4_124 p1 p2 p3) h56 n0 c57 c58) hZ (hw _ (List.mem_of_getElem? (i := 4) rfl)) (hw _ (List.mem_of_getElem? (i := 3) rfl)) (by decide) (by decide)) (g := (mkF m 126 #[.val (.int p1), .val (.int p2), .val (.int p3), .val (.int (p1 &&& (7 : Int32))), .val (.int ((p1.toUInt32 >>> ((3 : Int32) &&& 31).toUInt32).toInt32)), .val (.ref b4), .unset, .unset, .unset] [(.ref b4)])) rfl (by rw [hml]; rfl) (argsL := [(.ref b4)]) (rest := []) (lenOf pd_1 rfl) rfl (by show 2 * 0 + _ ≤ _; exact Nat.le_of_eq rfl) (hb hby at_126) (fun _ _ => ⟨rfl, e59, (by decide : 1 + 0 ≤ _), (by decide : 7 + 0 ≤ _)⟩)
  dsimp only [Pt.U, Pt.locs, Pt.cells, Pt.slots] at X60 l60 y60 z60 st60 hQ60
  subst l60 y60 z60
  obtain ⟨rfl, N60q, e60⟩ := hQ60
  have N60 := Fr.app N59 N60q
  have pre29 : ∀ t, Steps p.tables e below (T60.setTop (mkF m 133 #[.val (.int p1), .val (.int p2), .val (.int p3), .val (.int (p1 &&& (7 : Int32))), .val (.int ((p1.toUInt32 >>> ((3 : Int32) &&& 31).toUInt32).toInt32)), .val (.ref b4), .val (.int (f1 (p1 &&& (7 : Int32)) (f0_A_b4_124 p1 p2 p3))), .unset, .unset] [(.int (4 : Int32)), (.int (p1 &&& (7 : Int32)))])) t → Steps p.tables e below (s₁.setTop (entryFrame m #[(.int p1), (.int p2), (.int p3)] maxLocals)) t := by
    intro t k
    refine pre26 t ?_
    show Steps p.tables e below (T59.setTop (mkF m 124 #[.val (.int p1), .val (.int p2), .val (.int p3), .val (.int (p1 &&& (7 : Int32))), .val (.int ((p1.toUInt32 >>> ((3 : Int32) &&& 31).toUInt32).toInt32)), .val (.ref b4), .unset, .unset, .unset] [])) _
    refine XS.aload X59.here hx rfl (hb hby at_124) rfl rfl ?_
    show Steps p.tables e below (T59.setTop (mkF m 126 #[.val (.int p1), .val (.int p2), .val (.int p3), .val (.int (p1 &&& (7 : Int32))), .val (.int ((p1.toUInt32 >>> ((3 : Int32) &&& 31).toUInt32).toInt32)), .val (.ref b4), .unset, .unset, .unset] [(.ref b4)])) _
    refine st60 _ ?_
    show Steps p.tables e below (T60.setTop (mkF m 129 #[.val (.int p1), .val (.int p2), .val (.int p3), .val (.int (p1 &&& (7 : Int32))), .val (.int ((p1.toUInt32 >>> ((3 : Int32) &&& 31).toUInt32).toInt32)), .val (.ref b4), .unset, .unset, .unset] [(.int (f1 (p1 &&& (7 : Int32)) (f0_A_b4_124 p1 p2 p3)))])) _
    refine XS.istore X60.here hx rfl (hb hby at_129) rfl (l' := #[.val (.int p1), .val (.int p2), .val (.int p3), .val (.int (p1 &&& (7 : Int32))), .val (.int ((p1.toUInt32 >>> ((3 : Int32) &&& 31).toUInt32).toInt32)), .val (.ref b4), .val (.int (f1 (p1 &&& (7 : Int32)) (f0_A_b4_124 p1 p2 p3))), .unset, .unset]) rfl ?_
    show Steps p.tables e below (T60.setTop (mkF m 131 #[.val (.int p1), .val (.int p2), .val (.int p3), .val (.int (p1 &&& (7 : Int32))), .val (.int ((p1.toUInt32 >>> ((3 : Int32) &&& 31).toUInt32).toInt32)), .val (.ref b4), .val (.int (f1 (p1 &&& (7 : Int32)) (f0_A_b4_124 p1 p2 p3))), .unset, .unset] [])) _
    refine XS.iloadN X60.here hx rfl (hb hby at_131) rfl ?_
    show Steps p.tables e below (T60.setTop (mkF m 132 #[.val (.int p1), .val (.int p2), .val (.int p3), .val (.int (p1 &&& (7 : Int32))), .val (.int ((p1.toUInt32 >>> ((3 : Int32) &&& 31).toUInt32).toInt32)), .val (.ref b4), .val (.int (f1 (p1 &&& (7 : Int32)) (f0_A_b4_124 p1 p2 p3))), .unset, .unset] [(.int (p1 &&& (7 : Int32)))])) _
    refine XS.iconst X60.here hx rfl (hb hby at_132) ?_
    exact k
  by_cases hc133 : (p1 &&& (7 : Int32)) < (4 : Int32)
  · have pre30 : ∀ t, Steps p.tables e below (T60.setTop (mkF m 206 #[.val (.int p1), .val (.int p2), .val (.int p3), .val (.int (p1 &&& (7 : Int32))), .val (.int ((p1.toUInt32 >>> ((3 : Int32) &&& 31).toUInt32).toInt32)), .val (.ref b4), .val (.int (f1 (p1 &&& (7 : Int32)) (f0_A_b4_124 p1 p2 p3))), .val (.int (0 : Int32)), .unset] [(.int (0 : Int32)), (.int (f1 (p1 &&& (7 : Int32)) (f0_A_b4_124 p1 p2 p3)))])) t → Steps p.tables e below (s₁.setTop (entryFrame m #[(.int p1), (.int p2), (.int p3)] maxLocals)) t := by
      intro t k
      refine pre29 t ?_
      show Steps p.tables e below (T60.setTop (mkF m 133 #[.val (.int p1), .val (.int p2), .val (.int p3), .val (.int (p1 &&& (7 : Int32))), .val (.int ((p1.toUInt32 >>> ((3 : Int32) &&& 31).toUInt32).toInt32)), .val (.ref b4), .val (.int (f1 (p1 &&& (7 : Int32)) (f0_A_b4_124 p1 p2 p3))), .unset, .unset] [(.int (4 : Int32)), (.int (p1 &&& (7 : Int32)))])) _
      refine XS.icmpNo X60.here hx rfl (hb hby at_133) rfl (tlt hc133).2.1 ?_
      show Steps p.tables e below (T60.setTop (mkF m 136 #[.val (.int p1), .val (.int p2), .val (.int p3), .val (.int (p1 &&& (7 : Int32))), .val (.int ((p1.toUInt32 >>> ((3 : Int32) &&& 31).toUInt32).toInt32)), .val (.ref b4), .val (.int (f1 (p1 &&& (7 : Int32)) (f0_A_b4_124 p1 p2 p3))), .unset, .unset] [])) _
      refine XS.iconst X60.here hx rfl (hb hby at_136) ?_
      show Steps p.tables e below (T60.setTop (mkF m 137 #[.val (.int p1), .val (.int p2), .val (.int p3), .val (.int (p1 &&& (7 : Int32))), .val (.int ((p1.toUInt32 >>> ((3 : Int32) &&& 31).toUInt32).toInt32)), .val (.ref b4), .val (.int (f1 (p1 &&& (7 : Int32)) (f0_A_b4_124 p1 p2 p3))), .unset, .unset] [(.int (0 : Int32))])) _
      refine XS.istore X60.here hx rfl (hb hby at_137) rfl (l' := #[.val (.int p1), .val (.int p2), .val (.int p3), .val (.int (p1 &&& (7 : Int32))), .val (.int ((p1.toUInt32 >>> ((3 : Int32) &&& 31).toUInt32).toInt32)), .val (.ref b4), .val (.int (f1 (p1 &&& (7 : Int32)) (f0_A_b4_124 p1 p2 p3))), .val (.int (0 : Int32)), .unset]) rfl ?_
      show Steps p.tables e below (T60.setTop (mkF m 139 #[.val (.int p1), .val (.int p2), .val (.int p3), .val (.int (p1 &&& (7 : Int32))), .val (.int ((p1.toUInt32 >>> ((3 : Int32) &&& 31).toUInt32).toInt32)), .val (.ref b4), .val (.int (f1 (p1 &&& (7 : Int32)) (f0_A_b4_124 p1 p2 p3))), .val (.int (0 : Int32)), .unset] [])) _
      refine XS.goto X60.here hx rfl (pc0 := 139) (pc' := 202) rfl (hb hby at_139) (by decide) (by decide) ?_
      show Steps p.tables e below (T60.setTop (mkF m 202 #[.val (.int p1), .val (.int p2), .val (.int p3), .val (.int (p1 &&& (7 : Int32))), .val (.int ((p1.toUInt32 >>> ((3 : Int32) &&& 31).toUInt32).toInt32)), .val (.ref b4), .val (.int (f1 (p1 &&& (7 : Int32)) (f0_A_b4_124 p1 p2 p3))), .val (.int (0 : Int32)), .unset] [])) _
      refine XS.iload X60.here hx rfl (hb hby at_202) rfl ?_
      show Steps p.tables e below (T60.setTop (mkF m 204 #[.val (.int p1), .val (.int p2), .val (.int p3), .val (.int (p1 &&& (7 : Int32))), .val (.int ((p1.toUInt32 >>> ((3 : Int32) &&& 31).toUInt32).toInt32)), .val (.ref b4), .val (.int (f1 (p1 &&& (7 : Int32)) (f0_A_b4_124 p1 p2 p3))), .val (.int (0 : Int32)), .unset] [(.int (f1 (p1 &&& (7 : Int32)) (f0_A_b4_124 p1 p2 p3)))])) _
      refine XS.iload X60.here hx rfl (hb hby at_204) rfl ?_
      exact k
    by_cases hc206 : (f1 (p1 &&& (7 : Int32)) (f0_A_b4_124 p1 p2 p3)) = (0 : Int32)
    · have eq31 : (f0 p1 p2 p3) = (1 : Int32) := by unfold f0; simp only [if_pos hc133, if_pos hc206]
      obtain ⟨fs, hr, hrun, hended, hW, hsame⟩ := X60.leave (v := some (.int (1 : Int32))) (fun h => by rw [Bd.returns] at h; cases h)
      refine ⟨_, _, pre30 _ ?_, hrun, hended, _, _, rfl, ?_, ⟨_, rfl⟩, hW, hsame.mono (by decide) (by decide)⟩
      · show Steps p.tables e below (T60.setTop (mkF m 206 #[.val (.int p1), .val (.int p2), .val (.int p3), .val (.int (p1 &&& (7 : Int32))), .val (.int ((p1.toUInt32 >>> ((3 : Int32) &&& 31).toUInt32).toInt32)), .val (.ref b4), .val (.int (f1 (p1 &&& (7 : Int32)) (f0_A_b4_124 p1 p2 p3))), .val (.int (0 : Int32)), .unset] [(.int (0 : Int32)), (.int (f1 (p1 &&& (7 : Int32)) (f0_A_b4_124 p1 p2 p3)))])) _
        refine XS.icmpNo X60.here hx rfl (hb hby at_206) rfl (teq hc206).2 ?_
        show Steps p.tables e below (T60.setTop (mkF m 209 #[.val (.int p1), .val (.int p2), .val (.int p3), .val (.int (p1 &&& (7 : Int32))), .val (.int ((p1.toUInt32 >>> ((3 : Int32) &&& 31).toUInt32).toInt32)), .val (.ref b4), .val (.int (f1 (p1 &&& (7 : Int32)) (f0_A_b4_124 p1 p2 p3))), .val (.int (0 : Int32)), .unset] [])) _
        refine XS.iconst X60.here hx rfl (hb hby at_209) ?_
        show Steps p.tables e below (T60.setTop (mkF m 210 #[.val (.int p1), .val (.int p2), .val (.int p3), .val (.int (p1 &&& (7 : Int32))), .val (.int ((p1.toUInt32 >>> ((3 : Int32) &&& 31).toUInt32).toInt32)), .val (.ref b4), .val (.int (f1 (p1 &&& (7 : Int32)) (f0_A_b4_124 p1 p2 p3))), .val (.int (0 : Int32)), .unset] [(.int (1 : Int32))])) _
        refine XS.goto X60.here hx rfl (pc0 := 210) (pc' := 214) rfl (hb hby at_210) (by decide) (by decide) ?_
        show Steps p.tables e below (T60.setTop (mkF m 214 #[.val (.int p1), .val (.int p2), .val (.int p3), .val (.int (p1 &&& (7 : Int32))), .val (.int ((p1.toUInt32 >>> ((3 : Int32) &&& 31).toUInt32).toInt32)), .val (.ref b4), .val (.int (f1 (p1 &&& (7 : Int32)) (f0_A_b4_124 p1 p2 p3))), .val (.int (0 : Int32)), .unset] [(.int (1 : Int32))])) _
        exact retN X60 hx (t := .boolean) Bd.returns (by simp) (hb hby at_214) hr
      · show Q0 Z p1 p2 p3 h0 n0 _ T60.heap _
        rw [e60]
        exact ⟨by rw [eq31], N60, trivial⟩
    · have eq32 : (f0 p1 p2 p3) = (0 : Int32) := by unfold f0; simp only [if_pos hc133, if_neg hc206]
      obtain ⟨fs, hr, hrun, hended, hW, hsame⟩ := X60.leave (v := some (.int (0 : Int32))) (fun h => by rw [Bd.returns] at h; cases h)
      refine ⟨_, _, pre30 _ ?_, hrun, hended, _, _, rfl, ?_, ⟨_, rfl⟩, hW, hsame.mono (by decide) (by decide)⟩
      · show Steps p.tables e below (T60.setTop (mkF m 206 #[.val (.int p1), .val (.int p2), .val (.int p3), .val (.int (p1 &&& (7 : Int32))), .val (.int ((p1.toUInt32 >>> ((3 : Int32) &&& 31).toUInt32).toInt32)), .val (.ref b4), .val (.int (f1 (p1 &&& (7 : Int32)) (f0_A_b4_124 p1 p2 p3))), .val (.int (0 : Int32)), .unset] [(.int (0 : Int32)), (.int (f1 (p1 &&& (7 : Int32)) (f0_A_b4_124 p1 p2 p3)))])) _
        refine XS.icmpYes X60.here hx rfl (pc0 := 206) (pc' := 213) rfl (hb hby at_206) rfl (feq hc206).2 (by decide) (by decide) ?_
        show Steps p.tables e below (T60.setTop (mkF m 213 #[.val (.int p1), .val (.int p2), .val (.int p3), .val (.int (p1 &&& (7 : Int32))), .val (.int ((p1.toUInt32 >>> ((3 : Int32) &&& 31).toUInt32).toInt32)), .val (.ref b4), .val (.int (f1 (p1 &&& (7 : Int32)) (f0_A_b4_124 p1 p2 p3))), .val (.int (0 : Int32)), .unset] [])) _
        refine XS.iconst X60.here hx rfl (hb hby at_213) ?_
        show Steps p.tables e below (T60.setTop (mkF m 214 #[.val (.int p1), .val (.int p2), .val (.int p3), .val (.int (p1 &&& (7 : Int32))), .val (.int ((p1.toUInt32 >>> ((3 : Int32) &&& 31).toUInt32).toInt32)), .val (.ref b4), .val (.int (f1 (p1 &&& (7 : Int32)) (f0_A_b4_124 p1 p2 p3))), .val (.int (0 : Int32)), .unset] [(.int (0 : Int32))])) _
        exact retN X60 hx (t := .boolean) Bd.returns (by simp) (hb hby at_214) hr
      · show Q0 Z p1 p2 p3 h0 n0 _ T60.heap _
        rw [e60]
        exact ⟨by rw [eq32], N60, trivial⟩
  · have pre33 : ∀ t, Steps p.tables e below (T60.setTop (mkF m 192 #[.val (.int p1), .val (.int p2), .val (.int p3), .val (.int (p1 &&& (7 : Int32))), .val (.int ((p1.toUInt32 >>> ((3 : Int32) &&& 31).toUInt32).toInt32)), .val (.ref b4), .val (.int (f1 (p1 &&& (7 : Int32)) (f0_A_b4_124 p1 p2 p3))), .unset, .val (.int (f0_v186 p1 p2 p3))] [(.int (524291 : Int32)), (.int (f0_v186 p1 p2 p3))])) t → Steps p.tables e below (s₁.setTop (entryFrame m #[(.int p1), (.int p2), (.int p3)] maxLocals)) t := by
      intro t k
      refine pre29 t ?_
      show Steps p.tables e below (T60.setTop (mkF m 133 #[.val (.int p1), .val (.int p2), .val (.int p3), .val (.int (p1 &&& (7 : Int32))), .val (.int ((p1.toUInt32 >>> ((3 : Int32) &&& 31).toUInt32).toInt32)), .val (.ref b4), .val (.int (f1 (p1 &&& (7 : Int32)) (f0_A_b4_124 p1 p2 p3))), .unset, .unset] [(.int (4 : Int32)), (.int (p1 &&& (7 : Int32)))])) _
      refine XS.icmpYes X60.here hx rfl (pc0 := 133) (pc' := 142) rfl (hb hby at_133) rfl (flt hc133).2.1 (by decide) (by decide) ?_
      show Steps p.tables e below (T60.setTop (mkF m 142 #[.val (.int p1), .val (.int p2), .val (.int p3), .val (.int (p1 &&& (7 : Int32))), .val (.int ((p1.toUInt32 >>> ((3 : Int32) &&& 31).toUInt32).toInt32)), .val (.ref b4), .val (.int (f1 (p1 &&& (7 : Int32)) (f0_A_b4_124 p1 p2 p3))), .unset, .unset] [])) _
      refine XS.aload X60.here hx rfl (hb hby at_142) rfl rfl ?_
      show Steps p.tables e below (T60.setTop (mkF m 144 #[.val (.int p1), .val (.int p2), .val (.int p3), .val (.int (p1 &&& (7 : Int32))), .val (.int ((p1.toUInt32 >>> ((3 : Int32) &&& 31).toUInt32).toInt32)), .val (.ref b4), .val (.int (f1 (p1 &&& (7 : Int32)) (f0_A_b4_124 p1 p2 p3))), .unset, .unset] [(.ref b4)])) _
      refine XS.iconst X60.here hx rfl (hb hby at_144) ?_
      show Steps p.tables e below (T60.setTop (mkF m 145 #[.val (.int p1), .val (.int p2), .val (.int p3), .val (.int (p1 &&& (7 : Int32))), .val (.int ((p1.toUInt32 >>> ((3 : Int32) &&& 31).toUInt32).toInt32)), .val (.ref b4), .val (.int (f1 (p1 &&& (7 : Int32)) (f0_A_b4_124 p1 p2 p3))), .unset, .unset] [(.int (0 : Int32)), (.ref b4)])) _
      refine ldB X60 hx hZ e60 c58 (j := (0 : Int32)) (own_in4 hc133 (by decide) (by decide)) (g := (mkF m 145 #[.val (.int p1), .val (.int p2), .val (.int p3), .val (.int (p1 &&& (7 : Int32))), .val (.int ((p1.toUInt32 >>> ((3 : Int32) &&& 31).toUInt32).toInt32)), .val (.ref b4), .val (.int (f1 (p1 &&& (7 : Int32)) (f0_A_b4_124 p1 p2 p3))), .unset, .unset] [(.int (0 : Int32)), (.ref b4)])) rfl rfl (hb hby at_145) ?_
      show Steps p.tables e below (T60.setTop (mkF m 146 #[.val (.int p1), .val (.int p2), .val (.int p3), .val (.int (p1 &&& (7 : Int32))), .val (.int ((p1.toUInt32 >>> ((3 : Int32) &&& 31).toUInt32).toInt32)), .val (.ref b4), .val (.int (f1 (p1 &&& (7 : Int32)) (f0_A_b4_124 p1 p2 p3))), .unset, .unset] [(.int ((f0_A_b4_124 p1 p2 p3) ((0 : Int32)).toNatClampNeg))])) _
      refine XS.sipush X60.here hx rfl (hb hby at_146) ?_
      show Steps p.tables e below (T60.setTop (mkF m 149 #[.val (.int p1), .val (.int p2), .val (.int p3), .val (.int (p1 &&& (7 : Int32))), .val (.int ((p1.toUInt32 >>> ((3 : Int32) &&& 31).toUInt32).toInt32)), .val (.ref b4), .val (.int (f1 (p1 &&& (7 : Int32)) (f0_A_b4_124 p1 p2 p3))), .unset, .unset] [(.int (255 : Int32)), (.int ((f0_A_b4_124 p1 p2 p3) ((0 : Int32)).toNatClampNeg))])) _
      refine XS.iand X60.here hx rfl (hb hby at_149) rfl ?_
      show Steps p.tables e below (T60.setTop (mkF m 150 #[.val (.int p1), .val (.int p2), .val (.int p3), .val (.int (p1 &&& (7 : Int32))), .val (.int ((p1.toUInt32 >>> ((3 : Int32) &&& 31).toUInt32).toInt32)), .val (.ref b4), .val (.int (f1 (p1 &&& (7 : Int32)) (f0_A_b4_124 p1 p2 p3))), .unset, .unset] [(.int (((f0_A_b4_124 p1 p2 p3) ((0 : Int32)).toNatClampNeg) &&& (255 : Int32)))])) _
      refine XS.aload X60.here hx rfl (hb hby at_150) rfl rfl ?_
      show Steps p.tables e below (T60.setTop (mkF m 152 #[.val (.int p1), .val (.int p2), .val (.int p3), .val (.int (p1 &&& (7 : Int32))), .val (.int ((p1.toUInt32 >>> ((3 : Int32) &&& 31).toUInt32).toInt32)), .val (.ref b4), .val (.int (f1 (p1 &&& (7 : Int32)) (f0_A_b4_124 p1 p2 p3))), .unset, .unset] [(.ref b4), (.int (((f0_A_b4_124 p1 p2 p3) ((0 : Int32)).toNatClampNeg) &&& (255 : Int32)))])) _
      refine XS.iconst X60.here hx rfl (hb hby at_152) ?_
      show Steps p.tables e below (T60.setTop (mkF m 153 #[.val (.int p1), .val (.int p2), .val (.int p3), .val (.int (p1 &&& (7 : Int32))), .val (.int ((p1.toUInt32 >>> ((3 : Int32) &&& 31).toUInt32).toInt32)), .val (.ref b4), .val (.int (f1 (p1 &&& (7 : Int32)) (f0_A_b4_124 p1 p2 p3))), .unset, .unset] [(.int (1 : Int32)), (.ref b4), (.int (((f0_A_b4_124 p1 p2 p3) ((0 : Int32)).toNatClampNeg) &&& (255 : Int32)))])) _
      refine ldB X60 hx hZ e60 c58 (j := (1 : Int32)) (own_in4 hc133 (by decide) (by decide)) (g := (mkF m 153 #[.val (.int p1), .val (.int p2), .val (.int p3), .val (.int (p1 &&& (7 : Int32))), .val (.int ((p1.toUInt32 >>> ((3 : Int32) &&& 31).toUInt32).toInt32)), .val (.ref b4), .val (.int (f1 (p1 &&& (7 : Int32)) (f0_A_b4_124 p1 p2 p3))), .unset, .unset] [(.int (1 : Int32)), (.ref b4), (.int (((f0_A_b4_124 p1 p2 p3) ((0 : Int32)).toNatClampNeg) &&& (255 : Int32)))])) rfl rfl (hb hby at_153) ?_
      show Steps p.tables e below (T60.setTop (mkF m 154 #[.val (.int p1), .val (.int p2), .val (.int p3), .val (.int (p1 &&& (7 : Int32))), .val (.int ((p1.toUInt32 >>> ((3 : Int32) &&& 31).toUInt32).toInt32)), .val (.ref b4), .val (.int (f1 (p1 &&& (7 : Int32)) (f0_A_b4_124 p1 p2 p3))), .unset, .unset] [(.int ((f0_A_b4_124 p1 p2 p3) ((1 : Int32)).toNatClampNeg)), (.int (((f0_A_b4_124 p1 p2 p3) ((0 : Int32)).toNatClampNeg) &&& (255 : Int32)))])) _
      refine XS.sipush X60.here hx rfl (hb hby at_154) ?_
      show Steps p.tables e below (T60.setTop (mkF m 157 #[.val (.int p1), .val (.int p2), .val (.int p3), .val (.int (p1 &&& (7 : Int32))), .val (.int ((p1.toUInt32 >>> ((3 : Int32) &&& 31).toUInt32).toInt32)), .val (.ref b4), .val (.int (f1 (p1 &&& (7 : Int32)) (f0_A_b4_124 p1 p2 p3))), .unset, .unset] [(.int (255 : Int32)), (.int ((f0_A_b4_124 p1 p2 p3) ((1 : Int32)).toNatClampNeg)), (.int (((f0_A_b4_124 p1 p2 p3) ((0 : Int32)).toNatClampNeg) &&& (255 : Int32)))])) _
      refine XS.iand X60.here hx rfl (hb hby at_157) rfl ?_
      show Steps p.tables e below (T60.setTop (mkF m 158 #[.val (.int p1), .val (.int p2), .val (.int p3), .val (.int (p1 &&& (7 : Int32))), .val (.int ((p1.toUInt32 >>> ((3 : Int32) &&& 31).toUInt32).toInt32)), .val (.ref b4), .val (.int (f1 (p1 &&& (7 : Int32)) (f0_A_b4_124 p1 p2 p3))), .unset, .unset] [(.int (((f0_A_b4_124 p1 p2 p3) ((1 : Int32)).toNatClampNeg) &&& (255 : Int32))), (.int (((f0_A_b4_124 p1 p2 p3) ((0 : Int32)).toNatClampNeg) &&& (255 : Int32)))])) _
      refine XS.bipush X60.here hx rfl (hb hby at_158) ?_
      show Steps p.tables e below (T60.setTop (mkF m 160 #[.val (.int p1), .val (.int p2), .val (.int p3), .val (.int (p1 &&& (7 : Int32))), .val (.int ((p1.toUInt32 >>> ((3 : Int32) &&& 31).toUInt32).toInt32)), .val (.ref b4), .val (.int (f1 (p1 &&& (7 : Int32)) (f0_A_b4_124 p1 p2 p3))), .unset, .unset] [(.int (8 : Int32)), (.int (((f0_A_b4_124 p1 p2 p3) ((1 : Int32)).toNatClampNeg) &&& (255 : Int32))), (.int (((f0_A_b4_124 p1 p2 p3) ((0 : Int32)).toNatClampNeg) &&& (255 : Int32)))])) _
      refine XS.ishl X60.here hx rfl (hb hby at_160) rfl ?_
      show Steps p.tables e below (T60.setTop (mkF m 161 #[.val (.int p1), .val (.int p2), .val (.int p3), .val (.int (p1 &&& (7 : Int32))), .val (.int ((p1.toUInt32 >>> ((3 : Int32) &&& 31).toUInt32).toInt32)), .val (.ref b4), .val (.int (f1 (p1 &&& (7 : Int32)) (f0_A_b4_124 p1 p2 p3))), .unset, .unset] [(.int ((((f0_A_b4_124 p1 p2 p3) ((1 : Int32)).toNatClampNeg) &&& (255 : Int32)) <<< ((8 : Int32) &&& 31))), (.int (((f0_A_b4_124 p1 p2 p3) ((0 : Int32)).toNatClampNeg) &&& (255 : Int32)))])) _
      refine XS.ior X60.here hx rfl (hb hby at_161) rfl ?_
      show Steps p.tables e below (T60.setTop (mkF m 162 #[.val (.int p1), .val (.int p2), .val (.int p3), .val (.int (p1 &&& (7 : Int32))), .val (.int ((p1.toUInt32 >>> ((3 : Int32) &&& 31).toUInt32).toInt32)), .val (.ref b4), .val (.int (f1 (p1 &&& (7 : Int32)) (f0_A_b4_124 p1 p2 p3))), .unset, .unset] [(.int ((((f0_A_b4_124 p1 p2 p3) ((0 : Int32)).toNatClampNeg) &&& (255 : Int32)) ||| ((((f0_A_b4_124 p1 p2 p3) ((1 : Int32)).toNatClampNeg) &&& (255 : Int32)) <<< ((8 : Int32) &&& 31))))])) _
      refine XS.aload X60.here hx rfl (hb hby at_162) rfl rfl ?_
      show Steps p.tables e below (T60.setTop (mkF m 164 #[.val (.int p1), .val (.int p2), .val (.int p3), .val (.int (p1 &&& (7 : Int32))), .val (.int ((p1.toUInt32 >>> ((3 : Int32) &&& 31).toUInt32).toInt32)), .val (.ref b4), .val (.int (f1 (p1 &&& (7 : Int32)) (f0_A_b4_124 p1 p2 p3))), .unset, .unset] [(.ref b4), (.int ((((f0_A_b4_124 p1 p2 p3) ((0 : Int32)).toNatClampNeg) &&& (255 : Int32)) ||| ((((f0_A_b4_124 p1 p2 p3) ((1 : Int32)).toNatClampNeg) &&& (255 : Int32)) <<< ((8 : Int32) &&& 31))))])) _
      refine XS.iconst X60.here hx rfl (hb hby at_164) ?_
      show Steps p.tables e below (T60.setTop (mkF m 165 #[.val (.int p1), .val (.int p2), .val (.int p3), .val (.int (p1 &&& (7 : Int32))), .val (.int ((p1.toUInt32 >>> ((3 : Int32) &&& 31).toUInt32).toInt32)), .val (.ref b4), .val (.int (f1 (p1 &&& (7 : Int32)) (f0_A_b4_124 p1 p2 p3))), .unset, .unset] [(.int (2 : Int32)), (.ref b4), (.int ((((f0_A_b4_124 p1 p2 p3) ((0 : Int32)).toNatClampNeg) &&& (255 : Int32)) ||| ((((f0_A_b4_124 p1 p2 p3) ((1 : Int32)).toNatClampNeg) &&& (255 : Int32)) <<< ((8 : Int32) &&& 31))))])) _
      refine ldB X60 hx hZ e60 c58 (j := (2 : Int32)) (own_in4 hc133 (by decide) (by decide)) (g := (mkF m 165 #[.val (.int p1), .val (.int p2), .val (.int p3), .val (.int (p1 &&& (7 : Int32))), .val (.int ((p1.toUInt32 >>> ((3 : Int32) &&& 31).toUInt32).toInt32)), .val (.ref b4), .val (.int (f1 (p1 &&& (7 : Int32)) (f0_A_b4_124 p1 p2 p3))), .unset, .unset] [(.int (2 : Int32)), (.ref b4), (.int ((((f0_A_b4_124 p1 p2 p3) ((0 : Int32)).toNatClampNeg) &&& (255 : Int32)) ||| ((((f0_A_b4_124 p1 p2 p3) ((1 : Int32)).toNatClampNeg) &&& (255 : Int32)) <<< ((8 : Int32) &&& 31))))])) rfl rfl (hb hby at_165) ?_
      show Steps p.tables e below (T60.setTop (mkF m 166 #[.val (.int p1), .val (.int p2), .val (.int p3), .val (.int (p1 &&& (7 : Int32))), .val (.int ((p1.toUInt32 >>> ((3 : Int32) &&& 31).toUInt32).toInt32)), .val (.ref b4), .val (.int (f1 (p1 &&& (7 : Int32)) (f0_A_b4_124 p1 p2 p3))), .unset, .unset] [(.int ((f0_A_b4_124 p1 p2 p3) ((2 : Int32)).toNatClampNeg)), (.int ((((f0_A_b4_124 p1 p2 p3) ((0 : Int32)).toNatClampNeg) &&& (255 : Int32)) ||| ((((f0_A_b4_124 p1 p2 p3) ((1 : Int32)).toNatClampNeg) &&& (255 : Int32)) <<< ((8 : Int32) &&& 31))))])) _
      refine XS.sipush X60.here hx rfl (hb hby at_166) ?_
      show Steps p.tables e below (T60.setTop (mkF m 169 #[.val (.int p1), .val (.int p2), .val (.int p3), .val (.int (p1 &&& (7 : Int32))), .val (.int ((p1.toUInt32 >>> ((3 : Int32) &&& 31).toUInt32).toInt32)), .val (.ref b4), .val (.int (f1 (p1 &&& (7 : Int32)) (f0_A_b4_124 p1 p2 p3))), .unset, .unset] [(.int (255 : Int32)), (.int ((f0_A_b4_124 p1 p2 p3) ((2 : Int32)).toNatClampNeg)), (.int ((((f0_A_b4_124 p1 p2 p3) ((0 : Int32)).toNatClampNeg) &&& (255 : Int32)) ||| ((((f0_A_b4_124 p1 p2 p3) ((1 : Int32)).toNatClampNeg) &&& (255 : Int32)) <<< ((8 : Int32) &&& 31))))])) _
      refine XS.iand X60.here hx rfl (hb hby at_169) rfl ?_
      show Steps p.tables e below (T60.setTop (mkF m 170 #[.val (.int p1), .val (.int p2), .val (.int p3), .val (.int (p1 &&& (7 : Int32))), .val (.int ((p1.toUInt32 >>> ((3 : Int32) &&& 31).toUInt32).toInt32)), .val (.ref b4), .val (.int (f1 (p1 &&& (7 : Int32)) (f0_A_b4_124 p1 p2 p3))), .unset, .unset] [(.int (((f0_A_b4_124 p1 p2 p3) ((2 : Int32)).toNatClampNeg) &&& (255 : Int32))), (.int ((((f0_A_b4_124 p1 p2 p3) ((0 : Int32)).toNatClampNeg) &&& (255 : Int32)) ||| ((((f0_A_b4_124 p1 p2 p3) ((1 : Int32)).toNatClampNeg) &&& (255 : Int32)) <<< ((8 : Int32) &&& 31))))])) _
      refine XS.bipush X60.here hx rfl (hb hby at_170) ?_
      show Steps p.tables e below (T60.setTop (mkF m 172 #[.val (.int p1), .val (.int p2), .val (.int p3), .val (.int (p1 &&& (7 : Int32))), .val (.int ((p1.toUInt32 >>> ((3 : Int32) &&& 31).toUInt32).toInt32)), .val (.ref b4), .val (.int (f1 (p1 &&& (7 : Int32)) (f0_A_b4_124 p1 p2 p3))), .unset, .unset] [(.int (16 : Int32)), (.int (((f0_A_b4_124 p1 p2 p3) ((2 : Int32)).toNatClampNeg) &&& (255 : Int32))), (.int ((((f0_A_b4_124 p1 p2 p3) ((0 : Int32)).toNatClampNeg) &&& (255 : Int32)) ||| ((((f0_A_b4_124 p1 p2 p3) ((1 : Int32)).toNatClampNeg) &&& (255 : Int32)) <<< ((8 : Int32) &&& 31))))])) _
      refine XS.ishl X60.here hx rfl (hb hby at_172) rfl ?_
      show Steps p.tables e below (T60.setTop (mkF m 173 #[.val (.int p1), .val (.int p2), .val (.int p3), .val (.int (p1 &&& (7 : Int32))), .val (.int ((p1.toUInt32 >>> ((3 : Int32) &&& 31).toUInt32).toInt32)), .val (.ref b4), .val (.int (f1 (p1 &&& (7 : Int32)) (f0_A_b4_124 p1 p2 p3))), .unset, .unset] [(.int ((((f0_A_b4_124 p1 p2 p3) ((2 : Int32)).toNatClampNeg) &&& (255 : Int32)) <<< ((16 : Int32) &&& 31))), (.int ((((f0_A_b4_124 p1 p2 p3) ((0 : Int32)).toNatClampNeg) &&& (255 : Int32)) ||| ((((f0_A_b4_124 p1 p2 p3) ((1 : Int32)).toNatClampNeg) &&& (255 : Int32)) <<< ((8 : Int32) &&& 31))))])) _
      refine XS.ior X60.here hx rfl (hb hby at_173) rfl ?_
      show Steps p.tables e below (T60.setTop (mkF m 174 #[.val (.int p1), .val (.int p2), .val (.int p3), .val (.int (p1 &&& (7 : Int32))), .val (.int ((p1.toUInt32 >>> ((3 : Int32) &&& 31).toUInt32).toInt32)), .val (.ref b4), .val (.int (f1 (p1 &&& (7 : Int32)) (f0_A_b4_124 p1 p2 p3))), .unset, .unset] [(.int (((((f0_A_b4_124 p1 p2 p3) ((0 : Int32)).toNatClampNeg) &&& (255 : Int32)) ||| ((((f0_A_b4_124 p1 p2 p3) ((1 : Int32)).toNatClampNeg) &&& (255 : Int32)) <<< ((8 : Int32) &&& 31))) ||| ((((f0_A_b4_124 p1 p2 p3) ((2 : Int32)).toNatClampNeg) &&& (255 : Int32)) <<< ((16 : Int32) &&& 31))))])) _
      refine XS.aload X60.here hx rfl (hb hby at_174) rfl rfl ?_
      show Steps p.tables e below (T60.setTop (mkF m 176 #[.val (.int p1), .val (.int p2), .val (.int p3), .val (.int (p1 &&& (7 : Int32))), .val (.int ((p1.toUInt32 >>> ((3 : Int32) &&& 31).toUInt32).toInt32)), .val (.ref b4), .val (.int (f1 (p1 &&& (7 : Int32)) (f0_A_b4_124 p1 p2 p3))), .unset, .unset] [(.ref b4), (.int (((((f0_A_b4_124 p1 p2 p3) ((0 : Int32)).toNatClampNeg) &&& (255 : Int32)) ||| ((((f0_A_b4_124 p1 p2 p3) ((1 : Int32)).toNatClampNeg) &&& (255 : Int32)) <<< ((8 : Int32) &&& 31))) ||| ((((f0_A_b4_124 p1 p2 p3) ((2 : Int32)).toNatClampNeg) &&& (255 : Int32)) <<< ((16 : Int32) &&& 31))))])) _
      refine XS.iconst X60.here hx rfl (hb hby at_176) ?_
      show Steps p.tables e below (T60.setTop (mkF m 177 #[.val (.int p1), .val (.int p2), .val (.int p3), .val (.int (p1 &&& (7 : Int32))), .val (.int ((p1.toUInt32 >>> ((3 : Int32) &&& 31).toUInt32).toInt32)), .val (.ref b4), .val (.int (f1 (p1 &&& (7 : Int32)) (f0_A_b4_124 p1 p2 p3))), .unset, .unset] [(.int (3 : Int32)), (.ref b4), (.int (((((f0_A_b4_124 p1 p2 p3) ((0 : Int32)).toNatClampNeg) &&& (255 : Int32)) ||| ((((f0_A_b4_124 p1 p2 p3) ((1 : Int32)).toNatClampNeg) &&& (255 : Int32)) <<< ((8 : Int32) &&& 31))) ||| ((((f0_A_b4_124 p1 p2 p3) ((2 : Int32)).toNatClampNeg) &&& (255 : Int32)) <<< ((16 : Int32) &&& 31))))])) _
      refine ldB X60 hx hZ e60 c58 (j := (3 : Int32)) (own_in4 hc133 (by decide) (by decide)) (g := (mkF m 177 #[.val (.int p1), .val (.int p2), .val (.int p3), .val (.int (p1 &&& (7 : Int32))), .val (.int ((p1.toUInt32 >>> ((3 : Int32) &&& 31).toUInt32).toInt32)), .val (.ref b4), .val (.int (f1 (p1 &&& (7 : Int32)) (f0_A_b4_124 p1 p2 p3))), .unset, .unset] [(.int (3 : Int32)), (.ref b4), (.int (((((f0_A_b4_124 p1 p2 p3) ((0 : Int32)).toNatClampNeg) &&& (255 : Int32)) ||| ((((f0_A_b4_124 p1 p2 p3) ((1 : Int32)).toNatClampNeg) &&& (255 : Int32)) <<< ((8 : Int32) &&& 31))) ||| ((((f0_A_b4_124 p1 p2 p3) ((2 : Int32)).toNatClampNeg) &&& (255 : Int32)) <<< ((16 : Int32) &&& 31))))])) rfl rfl (hb hby at_177) ?_
      show Steps p.tables e below (T60.setTop (mkF m 178 #[.val (.int p1), .val (.int p2), .val (.int p3), .val (.int (p1 &&& (7 : Int32))), .val (.int ((p1.toUInt32 >>> ((3 : Int32) &&& 31).toUInt32).toInt32)), .val (.ref b4), .val (.int (f1 (p1 &&& (7 : Int32)) (f0_A_b4_124 p1 p2 p3))), .unset, .unset] [(.int ((f0_A_b4_124 p1 p2 p3) ((3 : Int32)).toNatClampNeg)), (.int (((((f0_A_b4_124 p1 p2 p3) ((0 : Int32)).toNatClampNeg) &&& (255 : Int32)) ||| ((((f0_A_b4_124 p1 p2 p3) ((1 : Int32)).toNatClampNeg) &&& (255 : Int32)) <<< ((8 : Int32) &&& 31))) ||| ((((f0_A_b4_124 p1 p2 p3) ((2 : Int32)).toNatClampNeg) &&& (255 : Int32)) <<< ((16 : Int32) &&& 31))))])) _
      refine XS.sipush X60.here hx rfl (hb hby at_178) ?_
      show Steps p.tables e below (T60.setTop (mkF m 181 #[.val (.int p1), .val (.int p2), .val (.int p3), .val (.int (p1 &&& (7 : Int32))), .val (.int ((p1.toUInt32 >>> ((3 : Int32) &&& 31).toUInt32).toInt32)), .val (.ref b4), .val (.int (f1 (p1 &&& (7 : Int32)) (f0_A_b4_124 p1 p2 p3))), .unset, .unset] [(.int (255 : Int32)), (.int ((f0_A_b4_124 p1 p2 p3) ((3 : Int32)).toNatClampNeg)), (.int (((((f0_A_b4_124 p1 p2 p3) ((0 : Int32)).toNatClampNeg) &&& (255 : Int32)) ||| ((((f0_A_b4_124 p1 p2 p3) ((1 : Int32)).toNatClampNeg) &&& (255 : Int32)) <<< ((8 : Int32) &&& 31))) ||| ((((f0_A_b4_124 p1 p2 p3) ((2 : Int32)).toNatClampNeg) &&& (255 : Int32)) <<< ((16 : Int32) &&& 31))))])) _
      refine XS.iand X60.here hx rfl (hb hby at_181) rfl ?_
      show Steps p.tables e below (T60.setTop (mkF m 182 #[.val (.int p1), .val (.int p2), .val (.int p3), .val (.int (p1 &&& (7 : Int32))), .val (.int ((p1.toUInt32 >>> ((3 : Int32) &&& 31).toUInt32).toInt32)), .val (.ref b4), .val (.int (f1 (p1 &&& (7 : Int32)) (f0_A_b4_124 p1 p2 p3))), .unset, .unset] [(.int (((f0_A_b4_124 p1 p2 p3) ((3 : Int32)).toNatClampNeg) &&& (255 : Int32))), (.int (((((f0_A_b4_124 p1 p2 p3) ((0 : Int32)).toNatClampNeg) &&& (255 : Int32)) ||| ((((f0_A_b4_124 p1 p2 p3) ((1 : Int32)).toNatClampNeg) &&& (255 : Int32)) <<< ((8 : Int32) &&& 31))) ||| ((((f0_A_b4_124 p1 p2 p3) ((2 : Int32)).toNatClampNeg) &&& (255 : Int32)) <<< ((16 : Int32) &&& 31))))])) _
      refine XS.bipush X60.here hx rfl (hb hby at_182) ?_
      show Steps p.tables e below (T60.setTop (mkF m 184 #[.val (.int p1), .val (.int p2), .val (.int p3), .val (.int (p1 &&& (7 : Int32))), .val (.int ((p1.toUInt32 >>> ((3 : Int32) &&& 31).toUInt32).toInt32)), .val (.ref b4), .val (.int (f1 (p1 &&& (7 : Int32)) (f0_A_b4_124 p1 p2 p3))), .unset, .unset] [(.int (24 : Int32)), (.int (((f0_A_b4_124 p1 p2 p3) ((3 : Int32)).toNatClampNeg) &&& (255 : Int32))), (.int (((((f0_A_b4_124 p1 p2 p3) ((0 : Int32)).toNatClampNeg) &&& (255 : Int32)) ||| ((((f0_A_b4_124 p1 p2 p3) ((1 : Int32)).toNatClampNeg) &&& (255 : Int32)) <<< ((8 : Int32) &&& 31))) ||| ((((f0_A_b4_124 p1 p2 p3) ((2 : Int32)).toNatClampNeg) &&& (255 : Int32)) <<< ((16 : Int32) &&& 31))))])) _
      refine XS.ishl X60.here hx rfl (hb hby at_184) rfl ?_
      show Steps p.tables e below (T60.setTop (mkF m 185 #[.val (.int p1), .val (.int p2), .val (.int p3), .val (.int (p1 &&& (7 : Int32))), .val (.int ((p1.toUInt32 >>> ((3 : Int32) &&& 31).toUInt32).toInt32)), .val (.ref b4), .val (.int (f1 (p1 &&& (7 : Int32)) (f0_A_b4_124 p1 p2 p3))), .unset, .unset] [(.int ((((f0_A_b4_124 p1 p2 p3) ((3 : Int32)).toNatClampNeg) &&& (255 : Int32)) <<< ((24 : Int32) &&& 31))), (.int (((((f0_A_b4_124 p1 p2 p3) ((0 : Int32)).toNatClampNeg) &&& (255 : Int32)) ||| ((((f0_A_b4_124 p1 p2 p3) ((1 : Int32)).toNatClampNeg) &&& (255 : Int32)) <<< ((8 : Int32) &&& 31))) ||| ((((f0_A_b4_124 p1 p2 p3) ((2 : Int32)).toNatClampNeg) &&& (255 : Int32)) <<< ((16 : Int32) &&& 31))))])) _
      refine XS.ior X60.here hx rfl (hb hby at_185) rfl ?_
      show Steps p.tables e below (T60.setTop (mkF m 186 #[.val (.int p1), .val (.int p2), .val (.int p3), .val (.int (p1 &&& (7 : Int32))), .val (.int ((p1.toUInt32 >>> ((3 : Int32) &&& 31).toUInt32).toInt32)), .val (.ref b4), .val (.int (f1 (p1 &&& (7 : Int32)) (f0_A_b4_124 p1 p2 p3))), .unset, .unset] [(.int ((((((f0_A_b4_124 p1 p2 p3) ((0 : Int32)).toNatClampNeg) &&& (255 : Int32)) ||| ((((f0_A_b4_124 p1 p2 p3) ((1 : Int32)).toNatClampNeg) &&& (255 : Int32)) <<< ((8 : Int32) &&& 31))) ||| ((((f0_A_b4_124 p1 p2 p3) ((2 : Int32)).toNatClampNeg) &&& (255 : Int32)) <<< ((16 : Int32) &&& 31))) ||| ((((f0_A_b4_124 p1 p2 p3) ((3 : Int32)).toNatClampNeg) &&& (255 : Int32)) <<< ((24 : Int32) &&& 31))))])) _
      refine XS.istore X60.here hx rfl (hb hby at_186) rfl (l' := #[.val (.int p1), .val (.int p2), .val (.int p3), .val (.int (p1 &&& (7 : Int32))), .val (.int ((p1.toUInt32 >>> ((3 : Int32) &&& 31).toUInt32).toInt32)), .val (.ref b4), .val (.int (f1 (p1 &&& (7 : Int32)) (f0_A_b4_124 p1 p2 p3))), .unset, .val (.int (f0_v186 p1 p2 p3))]) rfl ?_
      show Steps p.tables e below (T60.setTop (mkF m 188 #[.val (.int p1), .val (.int p2), .val (.int p3), .val (.int (p1 &&& (7 : Int32))), .val (.int ((p1.toUInt32 >>> ((3 : Int32) &&& 31).toUInt32).toInt32)), .val (.ref b4), .val (.int (f1 (p1 &&& (7 : Int32)) (f0_A_b4_124 p1 p2 p3))), .unset, .val (.int (f0_v186 p1 p2 p3))] [])) _
      refine XS.iload X60.here hx rfl (hb hby at_188) rfl ?_
      show Steps p.tables e below (T60.setTop (mkF m 190 #[.val (.int p1), .val (.int p2), .val (.int p3), .val (.int (p1 &&& (7 : Int32))), .val (.int ((p1.toUInt32 >>> ((3 : Int32) &&& 31).toUInt32).toInt32)), .val (.ref b4), .val (.int (f1 (p1 &&& (7 : Int32)) (f0_A_b4_124 p1 p2 p3))), .unset, .val (.int (f0_v186 p1 p2 p3))] [(.int (f0_v186 p1 p2 p3))])) _
      refine X60.ldcInt hx hown (mvT hZ (hw _ (List.mem_of_getElem? (i := 9) rfl))) (g := (mkF m 190 #[.val (.int p1), .val (.int p2), .val (.int p3), .val (.int (p1 &&& (7 : Int32))), .val (.int ((p1.toUInt32 >>> ((3 : Int32) &&& 31).toUInt32).toInt32)), .val (.ref b4), .val (.int (f1 (p1 &&& (7 : Int32)) (f0_A_b4_124 p1 p2 p3))), .unset, .val (.int (f0_v186 p1 p2 p3))] [(.int (f0_v186 p1 p2 p3))])) rfl (hb hby at_190) _ ?_
      exact k
    have pre34 : ∀ t, Steps p.tables e below (T60.setTop (mkF m 200 #[.val (.int p1), .val (.int p2), .val (.int p3), .val (.int (p1 &&& (7 : Int32))), .val (.int ((p1.toUInt32 >>> ((3 : Int32) &&& 31).toUInt32).toInt32)), .val (.ref b4), .val (.int (f1 (p1 &&& (7 : Int32)) (f0_A_b4_124 p1 p2 p3))), .unset, .val (.int (f0_v186 p1 p2 p3))] [(.int (f0_s0_200 p1 p2 p3))])) t → Steps p.tables e below (s₁.setTop (entryFrame m #[(.int p1), (.int p2), (.int p3)] maxLocals)) t := by
      intro t k
      by_cases hc192 : (f0_v186 p1 p2 p3) = (524291 : Int32)
      · have eq35 := (show (f0_s0_200 p1 p2 p3) = (1 : Int32) from by unfold f0_s0_200; simp only [if_pos hc192])
        try rw [eq35] at k
        refine pre33 t ?_
        show Steps p.tables e below (T60.setTop (mkF m 192 #[.val (.int p1), .val (.int p2), .val (.int p3), .val (.int (p1 &&& (7 : Int32))), .val (.int ((p1.toUInt32 >>> ((3 : Int32) &&& 31).toUInt32).toInt32)), .val (.ref b4), .val (.int (f1 (p1 &&& (7 : Int32)) (f0_A_b4_124 p1 p2 p3))), .unset, .val (.int (f0_v186 p1 p2 p3))] [(.int (524291 : Int32)), (.int (f0_v186 p1 p2 p3))])) _
        refine XS.icmpNo X60.here hx rfl (hb hby at_192) rfl (teq hc192).2 ?_
        show Steps p.tables e below (T60.setTop (mkF m 195 #[.val (.int p1), .val (.int p2), .val (.int p3), .val (.int (p1 &&& (7 : Int32))), .val (.int ((p1.toUInt32 >>> ((3 : Int32) &&& 31).toUInt32).toInt32)), .val (.ref b4), .val (.int (f1 (p1 &&& (7 : Int32)) (f0_A_b4_124 p1 p2 p3))), .unset, .val (.int (f0_v186 p1 p2 p3))] [])) _
        refine XS.iconst X60.here hx rfl (hb hby at_195) ?_
        show Steps p.tables e below (T60.setTop (mkF m 196 #[.val (.int p1), .val (.int p2), .val (.int p3), .val (.int (p1 &&& (7 : Int32))), .val (.int ((p1.toUInt32 >>> ((3 : Int32) &&& 31).toUInt32).toInt32)), .val (.ref b4), .val (.int (f1 (p1 &&& (7 : Int32)) (f0_A_b4_124 p1 p2 p3))), .unset, .val (.int (f0_v186 p1 p2 p3))] [(.int (1 : Int32))])) _
        refine XS.goto X60.here hx rfl (pc0 := 196) (pc' := 200) rfl (hb hby at_196) (by decide) (by decide) ?_
        exact k
      · have eq36 := (show (f0_s0_200 p1 p2 p3) = (0 : Int32) from by unfold f0_s0_200; simp only [if_neg hc192])
        try rw [eq36] at k
        refine pre33 t ?_
        show Steps p.tables e below (T60.setTop (mkF m 192 #[.val (.int p1), .val (.int p2), .val (.int p3), .val (.int (p1 &&& (7 : Int32))), .val (.int ((p1.toUInt32 >>> ((3 : Int32) &&& 31).toUInt32).toInt32)), .val (.ref b4), .val (.int (f1 (p1 &&& (7 : Int32)) (f0_A_b4_124 p1 p2 p3))), .unset, .val (.int (f0_v186 p1 p2 p3))] [(.int (524291 : Int32)), (.int (f0_v186 p1 p2 p3))])) _
        refine XS.icmpYes X60.here hx rfl (pc0 := 192) (pc' := 199) rfl (hb hby at_192) rfl (feq hc192).2 (by decide) (by decide) ?_
        show Steps p.tables e below (T60.setTop (mkF m 199 #[.val (.int p1), .val (.int p2), .val (.int p3), .val (.int (p1 &&& (7 : Int32))), .val (.int ((p1.toUInt32 >>> ((3 : Int32) &&& 31).toUInt32).toInt32)), .val (.ref b4), .val (.int (f1 (p1 &&& (7 : Int32)) (f0_A_b4_124 p1 p2 p3))), .unset, .val (.int (f0_v186 p1 p2 p3))] [])) _
        refine XS.iconst X60.here hx rfl (hb hby at_199) ?_
        exact k
    have pre37 : ∀ t, Steps p.tables e below (T60.setTop (mkF m 206 #[.val (.int p1), .val (.int p2), .val (.int p3), .val (.int (p1 &&& (7 : Int32))), .val (.int ((p1.toUInt32 >>> ((3 : Int32) &&& 31).toUInt32).toInt32)), .val (.ref b4), .val (.int (f1 (p1 &&& (7 : Int32)) (f0_A_b4_124 p1 p2 p3))), .val (.int (f0_s0_200 p1 p2 p3)), .val (.int (f0_v186 p1 p2 p3))] [(.int (f0_s0_200 p1 p2 p3)), (.int (f1 (p1 &&& (7 : Int32)) (f0_A_b4_124 p1 p2 p3)))])) t → Steps p.tables e below (s₁.setTop (entryFrame m #[(.int p1), (.int p2), (.int p3)] maxLocals)) t := by
      intro t k
      refine pre34 t ?_
      show Steps p.tables e below (T60.setTop (mkF m 200 #[.val (.int p1), .val (.int p2), .val (.int p3), .val (.int (p1 &&& (7 : Int32))), .val (.int ((p1.toUInt32 >>> ((3 : Int32) &&& 31).toUInt32).toInt32)), .val (.ref b4), .val (.int (f1 (p1 &&& (7 : Int32)) (f0_A_b4_124 p1 p2 p3))), .unset, .val (.int (f0_v186 p1 p2 p3))] [(.int (f0_s0_200 p1 p2 p3))])) _
      refine XS.istore X60.here hx rfl (hb hby at_200) rfl (l' := #[.val (.int p1), .val (.int p2), .val (.int p3), .val (.int (p1 &&& (7 : Int32))), .val (.int ((p1.toUInt32 >>> ((3 : Int32) &&& 31).toUInt32).toInt32)), .val (.ref b4), .val (.int (f1 (p1 &&& (7 : Int32)) (f0_A_b4_124 p1 p2 p3))), .val (.int (f0_s0_200 p1 p2 p3)), .val (.int (f0_v186 p1 p2 p3))]) rfl ?_
      show Steps p.tables e below (T60.setTop (mkF m 202 #[.val (.int p1), .val (.int p2), .val (.int p3), .val (.int (p1 &&& (7 : Int32))), .val (.int ((p1.toUInt32 >>> ((3 : Int32) &&& 31).toUInt32).toInt32)), .val (.ref b4), .val (.int (f1 (p1 &&& (7 : Int32)) (f0_A_b4_124 p1 p2 p3))), .val (.int (f0_s0_200 p1 p2 p3)), .val (.int (f0_v186 p1 p2 p3))] [])) _
      refine XS.iload X60.here hx rfl (hb hby at_202) rfl ?_
      show Steps p.tables e below (T60.setTop (mkF m 204 #[.val (.int p1), .val (.int p2), .val (.int p3), .val (.int (p1 &&& (7 : Int32))), .val (.int ((p1.toUInt32 >>> ((3 : Int32) &&& 31).toUInt32).toInt32)), .val (.ref b4), .val (.int (f1 (p1 &&& (7 : Int32)) (f0_A_b4_124 p1 p2 p3))), .val (.int (f0_s0_200 p1 p2 p3)), .val (.int (f0_v186 p1 p2 p3))] [(.int (f1 (p1 &&& (7 : Int32)) (f0_A_b4_124 p1 p2 p3)))])) _
      refine XS.iload X60.here hx rfl (hb hby at_204) rfl ?_
      exact k
    by_cases hc206 : (f1 (p1 &&& (7 : Int32)) (f0_A_b4_124 p1 p2 p3)) = (f0_s0_200 p1 p2 p3)
    · have eq38 : (f0 p1 p2 p3) = (1 : Int32) := by unfold f0; simp only [if_neg hc133, if_pos hc206]
      obtain ⟨fs, hr, hrun, hended, hW, hsame⟩ := X60.leave (v := some (.int (1 : Int32))) (fun h => by rw [Bd.returns] at h; cases h)
      refine ⟨_, _, pre37 _ ?_, hrun, hended, _, _, rfl, ?_, ⟨_, rfl⟩, hW, hsame.mono (by decide) (by decide)⟩
      · show Steps p.tables e below (T60.setTop (mkF m 206 #[.val (.int p1), .val (.int p2), .val (.int p3), .val (.int (p1 &&& (7 : Int32))), .val (.int ((p1.toUInt32 >>> ((3 : Int32) &&& 31).toUInt32).toInt32)), .val (.ref b4), .val (.int (f1 (p1 &&& (7 : Int32)) (f0_A_b4_124 p1 p2 p3))), .val (.int (f0_s0_200 p1 p2 p3)), .val (.int (f0_v186 p1 p2 p3))] [(.int (f0_s0_200 p1 p2 p3)), (.int (f1 (p1 &&& (7 : Int32)) (f0_A_b4_124 p1 p2 p3)))])) _
        refine XS.icmpNo X60.here hx rfl (hb hby at_206) rfl (teq hc206).2 ?_
        show Steps p.tables e below (T60.setTop (mkF m 209 #[.val (.int p1), .val (.int p2), .val (.int p3), .val (.int (p1 &&& (7 : Int32))), .val (.int ((p1.toUInt32 >>> ((3 : Int32) &&& 31).toUInt32).toInt32)), .val (.ref b4), .val (.int (f1 (p1 &&& (7 : Int32)) (f0_A_b4_124 p1 p2 p3))), .val (.int (f0_s0_200 p1 p2 p3)), .val (.int (f0_v186 p1 p2 p3))] [])) _
        refine XS.iconst X60.here hx rfl (hb hby at_209) ?_
        show Steps p.tables e below (T60.setTop (mkF m 210 #[.val (.int p1), .val (.int p2), .val (.int p3), .val (.int (p1 &&& (7 : Int32))), .val (.int ((p1.toUInt32 >>> ((3 : Int32) &&& 31).toUInt32).toInt32)), .val (.ref b4), .val (.int (f1 (p1 &&& (7 : Int32)) (f0_A_b4_124 p1 p2 p3))), .val (.int (f0_s0_200 p1 p2 p3)), .val (.int (f0_v186 p1 p2 p3))] [(.int (1 : Int32))])) _
        refine XS.goto X60.here hx rfl (pc0 := 210) (pc' := 214) rfl (hb hby at_210) (by decide) (by decide) ?_
        show Steps p.tables e below (T60.setTop (mkF m 214 #[.val (.int p1), .val (.int p2), .val (.int p3), .val (.int (p1 &&& (7 : Int32))), .val (.int ((p1.toUInt32 >>> ((3 : Int32) &&& 31).toUInt32).toInt32)), .val (.ref b4), .val (.int (f1 (p1 &&& (7 : Int32)) (f0_A_b4_124 p1 p2 p3))), .val (.int (f0_s0_200 p1 p2 p3)), .val (.int (f0_v186 p1 p2 p3))] [(.int (1 : Int32))])) _
        exact retN X60 hx (t := .boolean) Bd.returns (by simp) (hb hby at_214) hr
      · show Q0 Z p1 p2 p3 h0 n0 _ T60.heap _
        rw [e60]
        exact ⟨by rw [eq38], N60, trivial⟩
    · have eq39 : (f0 p1 p2 p3) = (0 : Int32) := by unfold f0; simp only [if_neg hc133, if_neg hc206]
      obtain ⟨fs, hr, hrun, hended, hW, hsame⟩ := X60.leave (v := some (.int (0 : Int32))) (fun h => by rw [Bd.returns] at h; cases h)
      refine ⟨_, _, pre37 _ ?_, hrun, hended, _, _, rfl, ?_, ⟨_, rfl⟩, hW, hsame.mono (by decide) (by decide)⟩
      · show Steps p.tables e below (T60.setTop (mkF m 206 #[.val (.int p1), .val (.int p2), .val (.int p3), .val (.int (p1 &&& (7 : Int32))), .val (.int ((p1.toUInt32 >>> ((3 : Int32) &&& 31).toUInt32).toInt32)), .val (.ref b4), .val (.int (f1 (p1 &&& (7 : Int32)) (f0_A_b4_124 p1 p2 p3))), .val (.int (f0_s0_200 p1 p2 p3)), .val (.int (f0_v186 p1 p2 p3))] [(.int (f0_s0_200 p1 p2 p3)), (.int (f1 (p1 &&& (7 : Int32)) (f0_A_b4_124 p1 p2 p3)))])) _
        refine XS.icmpYes X60.here hx rfl (pc0 := 206) (pc' := 213) rfl (hb hby at_206) rfl (feq hc206).2 (by decide) (by decide) ?_
        show Steps p.tables e below (T60.setTop (mkF m 213 #[.val (.int p1), .val (.int p2), .val (.int p3), .val (.int (p1 &&& (7 : Int32))), .val (.int ((p1.toUInt32 >>> ((3 : Int32) &&& 31).toUInt32).toInt32)), .val (.ref b4), .val (.int (f1 (p1 &&& (7 : Int32)) (f0_A_b4_124 p1 p2 p3))), .val (.int (f0_s0_200 p1 p2 p3)), .val (.int (f0_v186 p1 p2 p3))] [])) _
        refine XS.iconst X60.here hx rfl (hb hby at_213) ?_
        show Steps p.tables e below (T60.setTop (mkF m 214 #[.val (.int p1), .val (.int p2), .val (.int p3), .val (.int (p1 &&& (7 : Int32))), .val (.int ((p1.toUInt32 >>> ((3 : Int32) &&& 31).toUInt32).toInt32)), .val (.ref b4), .val (.int (f1 (p1 &&& (7 : Int32)) (f0_A_b4_124 p1 p2 p3))), .val (.int (f0_s0_200 p1 p2 p3)), .val (.int (f0_v186 p1 p2 p3))] [(.int (0 : Int32))])) _
        exact retN X60 hx (t := .boolean) Bd.returns (by simp) (hb hby at_214) hr
      · show Q0 Z p1 p2 p3 h0 n0 _ T60.heap _
        rw [e60]
        exact ⟨by rw [eq39], N60, trivial⟩
theorem own_inj {x y : Int32} (h : x.toBitVec.toNat = y.toBitVec.toNat) : x = y := Int32.toBitVec_inj.mp (BitVec.eq_of_toNat_eq h)
theorem own_shl (x q : Int32) (k : Nat) (hk : q.toBitVec.toNat % 32 = k) : (x <<< (q &&& 31)).toBitVec.toNat = x.toBitVec.toNat * 2 ^ k % 2 ^ 32 := by
  show (x.toBitVec <<< ((q &&& 31).toBitVec.smod 32)).toNat = _
  rw [BitVec.shiftLeft_eq', sm32 q k hk, BitVec.toNat_shiftLeft, Nat.shiftLeft_eq]
theorem own_shr (x q : Int32) (k : Nat) (hk : q.toBitVec.toNat % 32 = k) : ((x.toUInt32 >>> (q &&& 31).toUInt32).toInt32).toBitVec.toNat = x.toBitVec.toNat / 2 ^ k := by
  have h1 : ((q &&& 31).toBitVec % 32).toNat = k := by
    show ((q.toBitVec &&& (31 : Int32).toBitVec) % 32).toNat = k
    rw [BitVec.toNat_umod, BitVec.toNat_and, show (31 : Int32).toBitVec.toNat = 2 ^ 5 - 1 from rfl, Nat.and_two_pow_sub_one_eq_mod]
    show q.toBitVec.toNat % 2 ^ 5 % 32 = k
    omega
  show (x.toBitVec >>> ((q &&& 31).toBitVec % 32)).toNat = _
  rw [BitVec.ushiftRight_eq', h1, BitVec.toNat_ushiftRight, Nat.shiftRight_eq_div_pow]
theorem own_or (x y : Int32) (k : Nat) (hx : x.toBitVec.toNat % 2 ^ k = 0) (hy : y.toBitVec.toNat < 2 ^ k) : (x ||| y).toBitVec.toNat = x.toBitVec.toNat + y.toBitVec.toNat := by
  show (x.toBitVec ||| y.toBitVec).toNat = _
  rw [BitVec.toNat_or]
  have e : x.toBitVec.toNat = 2 ^ k * (x.toBitVec.toNat / 2 ^ k) := by
    have h := Nat.div_add_mod x.toBitVec.toNat (2 ^ k); omega
  rw [e]; exact (Nat.two_pow_add_eq_or_of_lt hy _).symm
theorem own_orS (x y : Int32) (k : Nat) (hx : x.toBitVec.toNat < 2 ^ k) (hy : y.toBitVec.toNat % 2 ^ k = 0) : (x ||| y).toBitVec.toNat = x.toBitVec.toNat + y.toBitVec.toNat := by
  rw [Int32.or_comm, own_or y x k hy hx]; omega
theorem own_and (x y : Int32) : (x &&& y).toBitVec.toNat = x.toBitVec.toNat &&& y.toBitVec.toNat := by
  show (x.toBitVec &&& y.toBitVec).toNat = _
  rw [BitVec.toNat_and]
theorem own_pos (x : Int32) (h : 0 ≤ x.toInt) : x.toInt = x.toBitVec.toNat := by
  have h1 := own_nat x; have h2 := rng32 x; omega
theorem own_cond (x : Int32) (v : Int32) (n : Nat) (h : v.toBitVec.toNat = n) (c : x.toBitVec.toNat = n) : x = v := own_inj (by rw [c, h])
theorem own_a224 : ∀ l : Fin 256, (l.val &&& 224 = 192) ↔ (192 ≤ l.val ∧ l.val < 224) := by decide +kernel
theorem own_a240 : ∀ l : Fin 256, (l.val &&& 240 = 224) ↔ (224 ≤ l.val ∧ l.val < 240) := by decide +kernel
theorem own_a248 : ∀ l : Fin 256, (l.val &&& 248 = 240) ↔ (240 ≤ l.val ∧ l.val < 248) := by decide +kernel
theorem own_a192 : ∀ l : Fin 256, (l.val &&& 192 = 128) ↔ (128 ≤ l.val ∧ l.val < 192) := by decide +kernel
theorem own_m224 (x : Int32) (h : x.toBitVec.toNat < 256) : (x &&& 224) = 192 ↔ (192 ≤ x.toBitVec.toNat ∧ x.toBitVec.toNat < 224) := by
  rw [← own_a224 ⟨_, h⟩]
  exact ⟨fun q => by have z := congrArg (fun y : Int32 => y.toBitVec.toNat) q; rw [show ((x &&& 224 : Int32).toBitVec.toNat) = _ from own_and x 224] at z; exact z, fun q => own_inj (by rw [own_and]; exact q)⟩
theorem own_m240 (x : Int32) (h : x.toBitVec.toNat < 256) : (x &&& 240) = 224 ↔ (224 ≤ x.toBitVec.toNat ∧ x.toBitVec.toNat < 240) := by
  rw [← own_a240 ⟨_, h⟩]
  exact ⟨fun q => by have z := congrArg (fun y : Int32 => y.toBitVec.toNat) q; rw [show ((x &&& 240 : Int32).toBitVec.toNat) = _ from own_and x 240] at z; exact z, fun q => own_inj (by rw [own_and]; exact q)⟩
theorem own_m248 (x : Int32) (h : x.toBitVec.toNat < 256) : (x &&& 248) = 240 ↔ (240 ≤ x.toBitVec.toNat ∧ x.toBitVec.toNat < 248) := by
  rw [← own_a248 ⟨_, h⟩]
  exact ⟨fun q => by have z := congrArg (fun y : Int32 => y.toBitVec.toNat) q; rw [show ((x &&& 248 : Int32).toBitVec.toNat) = _ from own_and x 248] at z; exact z, fun q => own_inj (by rw [own_and]; exact q)⟩
theorem own_m192 (x : Int32) (h : x.toBitVec.toNat < 256) : (x &&& 192) = 128 ↔ (128 ≤ x.toBitVec.toNat ∧ x.toBitVec.toNat < 192) := by
  rw [← own_a192 ⟨_, h⟩]
  exact ⟨fun q => by have z := congrArg (fun y : Int32 => y.toBitVec.toNat) q; rw [show ((x &&& 192 : Int32).toBitVec.toNat) = _ from own_and x 192] at z; exact z, fun q => own_inj (by rw [own_and]; exact q)⟩
theorem own_lt (x v : Int32) (h1 : x.toBitVec.toNat < 2 ^ 31) (h2 : v.toBitVec.toNat < 2 ^ 31) : x < v ↔ x.toBitVec.toNat < v.toBitVec.toNat := by
  have a := own_nat x; have b := own_nat v; have c := rng32 x; have d := rng32 v
  rw [Int32.lt_iff_toInt_lt]; omega
theorem own_updr {f : Nat → Int32} (hf : ∀ i, -128 ≤ (f i).toInt ∧ (f i).toInt < 128) (j : Nat) (y : Int32) : ∀ i, -128 ≤ (ownU f j (nar .byte y) i).toInt ∧ (ownU f j (nar .byte y) i).toInt < 128 := fun i => by
  unfold ownU
  split
  · exact (c_i2b y).2
  · exact hf i
theorem own_b255 (w n : Int32) (h : -128 ≤ w.toInt ∧ w.toInt < 128) (hn : 0 ≤ n.toInt ∧ n.toInt < 128) : (w &&& 255) = n ↔ w = n := by
  rw [← Int32.toInt_inj, ← Int32.toInt_inj, c_mask w 255 8 (by decide) (by decide)]
  omega
theorem own_word (a b c d : Int32) : ((((a &&& 255) ||| ((b &&& 255) <<< ((8 : Int32) &&& 31))) ||| ((c &&& 255) <<< ((16 : Int32) &&& 31))) ||| ((d &&& 255) <<< ((24 : Int32) &&& 31))).toBitVec.toNat = (a &&& 255).toBitVec.toNat + 256 * (b &&& 255).toBitVec.toNat + 65536 * (c &&& 255).toBitVec.toNat + 16777216 * (d &&& 255).toBitVec.toNat := by
  have ha := own_mask a 255 8 rfl
  have hb := own_mask b 255 8 rfl
  have hc := own_mask c 255 8 rfl
  have hd := own_mask d 255 8 rfl
  have sb := own_shl (b &&& 255) 8 8 rfl
  have sc := own_shl (c &&& 255) 16 16 rfl
  have sd := own_shl (d &&& 255) 24 24 rfl
  have o1 := own_orS (a &&& 255) ((b &&& 255) <<< ((8 : Int32) &&& 31)) 8 (by omega) (by omega)
  have o2 := own_orS ((a &&& 255) ||| ((b &&& 255) <<< ((8 : Int32) &&& 31))) ((c &&& 255) <<< ((16 : Int32) &&& 31)) 16 (by omega) (by omega)
  rw [own_orS _ _ 24 (by omega) (by omega)]
  omega
theorem own_wordI (a b c d : Int32) (ha : -128 ≤ a.toInt ∧ a.toInt < 128) (hb : -128 ≤ b.toInt ∧ b.toInt < 128) (hc : -128 ≤ c.toInt ∧ c.toInt < 128) (hd : -128 ≤ d.toInt ∧ d.toInt < 128) :
    ((((a &&& 255) ||| ((b &&& 255) <<< ((8 : Int32) &&& 31))) ||| ((c &&& 255) <<< ((16 : Int32) &&& 31))) ||| ((d &&& 255) <<< ((24 : Int32) &&& 31))) = 524291 ↔ a = 3 ∧ b = 0 ∧ c = 8 ∧ d = 0 := by
  have w := own_word a b c d
  have ma := own_mask a 255 8 rfl
  have mb := own_mask b 255 8 rfl
  have mc := own_mask c 255 8 rfl
  have md := own_mask d 255 8 rfl
  have na := own_nat a
  have nb := own_nat b
  have nc := own_nat c
  have nd := own_nat d
  have e3 : (3 : Int32).toInt = 3 := rfl
  have e0 : (0 : Int32).toInt = 0 := rfl
  have e8 : (8 : Int32).toInt = 8 := rfl
  constructor
  · intro q
    rw [q, show (524291 : Int32).toBitVec.toNat = 524291 from rfl] at w
    refine ⟨Int32.toInt_inj.mp ?_, Int32.toInt_inj.mp ?_, Int32.toInt_inj.mp ?_, Int32.toInt_inj.mp ?_⟩ <;> omega
  · rintro ⟨rfl, rfl, rfl, rfl⟩
    rfl
theorem own_rA {c : Prop} [Decidable c] {f g : Nat → Int32} (hf : ∀ i, -128 ≤ (f i).toInt ∧ (f i).toInt < 128) (hg : ∀ i, -128 ≤ (g i).toInt ∧ (g i).toInt < 128) : ∀ i, -128 ≤ ((if c then f else g) i).toInt ∧ ((if c then f else g) i).toInt < 128 := by
  split
  · exact hf
  · exact hg
theorem own_law (x y z : Int32) : f0 x y z = 1 := by
  have r0 : ∀ i : Nat, -128 ≤ ((fun _ => (0 : Int32)) i).toInt ∧ ((fun _ => (0 : Int32)) i).toInt < 128 := fun _ => ⟨(by decide : -128 ≤ (0 : Int32).toInt), (by decide : (0 : Int32).toInt < 128)⟩
  have hr : ∀ i, -128 ≤ (f0_A_b4_124 x y z i).toInt ∧ (f0_A_b4_124 x y z i).toInt < 128 := by
    have r1 : ∀ i, -128 ≤ (f0_A_b4_31 x y z i).toInt ∧ (f0_A_b4_31 x y z i).toInt < 128 := own_rA (own_updr r0 _ _) r0
    have r2 : ∀ i, -128 ≤ (f0_A_b4_48 x y z i).toInt ∧ (f0_A_b4_48 x y z i).toInt < 128 := own_rA (own_updr r1 _ _) r1
    have r3 : ∀ i, -128 ≤ (f0_A_b4_66 x y z i).toInt ∧ (f0_A_b4_66 x y z i).toInt < 128 := own_rA (own_updr r2 _ _) r2
    have r4 : ∀ i, -128 ≤ (f0_A_b4_83 x y z i).toInt ∧ (f0_A_b4_83 x y z i).toInt < 128 := own_rA (own_updr r3 _ _) r3
    have r5 : ∀ i, -128 ≤ (f0_A_b4_94 x y z i).toInt ∧ (f0_A_b4_94 x y z i).toInt < 128 := own_rA (own_updr r4 _ _) r4
    have r6 : ∀ i, -128 ≤ (f0_A_b4_108 x y z i).toInt ∧ (f0_A_b4_108 x y z i).toInt < 128 := own_rA (own_updr r5 _ _) r5
    exact own_rA (own_updr r6 _ _) r6
  unfold f0 f1 f0_s0_200 f0_v186
  simp only [own_wordI _ _ _ _ (hr _) (hr _) (hr _) (hr _)]
  by_cases h4 : (x &&& 7) < 4
  · rw [if_pos h4, if_pos h4, if_pos rfl]
  · rw [if_neg h4, if_neg h4]
    repeat' split
    all_goals simp_all

set_option maxRecDepth 65536 in
set_option maxHeartbeats 40000000 in
theorem comes_1 {Post : Tables → Env → Array Value → State → Outcome → State → Prop} (hpost : ∀ tb e args s v u, (limb_1_1.after args s (.returned v) u = true ∧ limb_1_2.after args s (.returned v) u = true ∧ True) → FrameEnd s (.returned v) u (Jvm.fieldLocs frame_1_writes args s ++ Jvm.arrayLocs frame_1_arrays args s ++ Jvm.staticLocs frame_1_statics s) 16 128 → Post tb e args s (.returned v) u) :
    ArmFor flags0 classFile x code maxLocals ret World_1 tables_1 room_1 Calls_1 rest_1 Pre_1 Post := by
  intro l hfl _ _ p e ha hc hk s m args below hf hA hF happ hP
  obtain ⟨hcalls, hrest, hpre⟩ := hP
  obtain ⟨-, -, -, hnamed, -, -, -, hat⟩ := (Spec.applies_iff hf).mp happ
  obtain ⟨hg, hn⟩ := and_e (Cond.before_iff.mp (show (Jvm.Cond.and given_1 narrow_1).before args s = true from hpre))
  obtain ⟨g1, g2⟩ := and_e hg
  obtain ⟨g3, g4⟩ := and_e g2
  obtain ⟨g5, g6⟩ := and_e g4
  obtain ⟨w0, w1, w2, rfl⟩ : ∃ w0 w1 w2 : Value, args = #[w0, w1, w2] := by
    have hs : args.size = 3 := by simpa [Cond.value, given_1] using g1
    obtain ⟨L⟩ := args
    match L, hs with
    | [w0, w1, w2], _ => exact ⟨w0, w1, w2, rfl⟩
  have hw := fun d (hd : d ∈ tables_1) => atoms_spec (ws := Jvm.Cond.code x code maxLocals ret :: tables_1) hat d (List.mem_cons_of_mem _ hd)
  have hfit : Fit s := fun {y c} hc i hi => by
    obtain ⟨ha, rfl⟩ := Array.getElem?_eq_some_iff.mp hc
    have q := List.all_eq_true.mp ((Array.all_eq_true_iff_forall_mem.mp hF) _ (Array.getElem_mem ha)) i (List.mem_range.mpr hi)
    simpa [Array.getElem?_eq_getElem hi] using q
  obtain ⟨i0, ei0⟩ := is_v g3
  obtain rfl : w0 = (.int i0) := Option.some.inj ei0
  obtain ⟨i1, ei1⟩ := is_v g5
  obtain rfl : w1 = (.int i1) := Option.some.inj ei1
  obtain ⟨i2, ei2⟩ := is_v g6
  obtain rfl : w2 = (.int i2) := Option.some.inj ei2
  obtain ⟨n, o, h1, h2, h3, v', L, rfl, ⟨hv', N, -⟩, hq⟩ := rm0 l s _ hw tables_1 i0 i1 i2 s.heap s.heap.size (Nat.le_refl _)  p e ha hc hk s m _ below hf ((Spec.applies_iff_loose hf).mp happ).1 ⟨rfl, State.Warmed39.refl s, rfl⟩ trivial
  rw [own_law i0 i1 i2] at hv'
  subst hv'
  refine ⟨n, _, h1, h2, h3, hpost _ _ _ _ _ _ ⟨Cond.after_iff.mpr rfl, Cond.after_iff.mpr (eq_i res_at (Term.int_eval (1)) rfl), trivial⟩ ⟨hq.1, hq.2.1, (hq.2.2.sift fun y hy => Or.inr (N y hy)).mono (by decide) (by decide)⟩⟩
theorem main_1_1 : Claimed_1_1 := comes_1 fun _ _ _ _ _ _ h hF => ⟨h.1, hF⟩
theorem main_1_2 : Claimed_1_2 := comes_1 fun _ _ _ _ _ _ h hF => ⟨h.2.1, hF⟩
end Jvm.Pilot.@@N@@
namespace Jvm.Pilot.@@N@@
open Jvm Jvm.ClassFile Sem Op Lib Jvm.Free Jvm.Stand Jvm.Pilot.@@N@@.Jvm.D
/-! MADE BY PROGRAM (witnessworld.py) out of the Statement's table words and the real class files: 9 classes; the members and pool entries that the words name. The judged class is class 1, her method 2. -/
namespace start1
open Jvm.ClassFile
def u (s : String) : CpInfo := .utf8 (stringToUtf16 s)
/-- a pool by its gaps: so many unusable entries, then the entry; so many at the end -/
def gap : Nat → List CpInfo → List CpInfo
  | 0, r => r
  | n + 1, r => .unusable :: gap n r
def poolList (es : List (Nat × CpInfo)) (last : Nat) : List CpInfo := es.foldr (fun e r => gap e.1 (e.2 :: r)) (gap last [])
def pool (es : List (Nat × CpInfo)) (last : Nat) : Array CpInfo := ⟨poolList es last⟩
def fileOf (pool : Array CpInfo) (this : Nat) (attrs : Array Attribute := #[]) (ms : Array MethodInfo := #[]) (fl : Nat := 33) (sup : Nat := 0) (ifs : Array Nat := #[]) (fds : Array FieldInfo := #[]) : ClassFile where
  minorVersion := 0
  majorVersion := 65
  constantPool := pool
  accessFlags := fl
  thisClass := this
  superClass := sup
  interfaces := ifs
  fields := fds
  methods := ms
  attributes := attrs
def plain (name : String) (sup : Option ClassId) : Class where
  name := name
  kind := .ordinary
  loader := none
  accessFlags := 33
  super := sup
  interfaces := #[]
  cf := none
  fields := #[]
  methods := #[]
  instanceTypes := #[]
  staticTypes := #[]
  resolved := #[]
  callSites := []
  init := .initialized
  statics := none
  mirror := none

def pool0 : Array CpInfo := pool [(5, u "<init>"), (0, u "()V"), (1, .class_ 10), (1, u "java/lang/Object")] 113

def k0m0 : Method := { name := "<init>", desc := "()V", sig := { parameters := [], returnType := none }, accessFlags := 1, code := none }
/-- java/lang/Object -/
def k0 : Class := { plain "java/lang/Object" none with
  accessFlags := 33
  interfaces := #[]
  cf := some (fileOf pool0 8 #[] #[{ accessFlags := 1, nameIndex := 5, descriptorIndex := 6, attributes := #[] }] 33 0 #[] #[])
  fields := #[]
  methods := #[k0m0]
  instanceTypes := #[]
  staticTypes := #[]
  resolved := Array.replicate 124 none
  statics := none }

def pool1 : Array CpInfo := pool [(2, .class_ 4), (1, u "java/lang/Object"), (0, u "<init>"), (0, u "()V"), (0, .methodref 8 9), (0, .class_ 10), (0, .nameAndType 11 12), (0, u "com/example/weaverbird/weaverbird/format/BinaryXmlParserIsBinaryXmlPinLaw"), (0, u "pick"), (0, u "(IIII)B"), (0, .methodref 14 15), (0, .class_ 16), (0, .nameAndType 17 18), (0, u "com/example/weaverbird/weaverbird/format/BinaryXmlParser"), (0, u "isBinaryXml"), (0, u "([B)Z"), (0, .integer 524291), (3, u "law"), (0, u "(III)Z")] 4

def k1m0 : Method := { name := "<init>", desc := "()V", sig := { parameters := [], returnType := none }, accessFlags := 2, code := none }
def k1c1 : Code := { maxStack := 3, maxLocals := 4, code := method_2_code, exceptionTable := #[], attributes := #[] }
def k1m1 : Method := { name := "pick", desc := "(IIII)B", sig := { parameters := [.int, .int, .int, .int], returnType := some .byte }, accessFlags := 10, code := some k1c1 }
def k1c2 : Code := { maxStack := 6, maxLocals := 9, code := code, exceptionTable := #[], attributes := #[] }
def k1m2 : Method := { name := "law", desc := "(III)Z", sig := { parameters := [.int, .int, .int], returnType := some .boolean }, accessFlags := 9, code := some k1c2 }
/-- com/example/weaverbird/weaverbird/format/BinaryXmlParserIsBinaryXmlPinLaw -/
def k1 : Class := { plain "com/example/weaverbird/weaverbird/format/BinaryXmlParserIsBinaryXmlPinLaw" (some 0) with
  accessFlags := 49
  interfaces := #[]
  cf := some (fileOf pool1 8 #[] #[{ accessFlags := 2, nameIndex := 5, descriptorIndex := 6, attributes := #[] }, { accessFlags := 10, nameIndex := 11, descriptorIndex := 12, attributes := #[] }, { accessFlags := 9, nameIndex := 23, descriptorIndex := 24, attributes := #[] }] 49 2 #[] #[])
  fields := #[]
  methods := #[k1m0, k1m1, k1m2]
  instanceTypes := #[]
  staticTypes := #[]
  resolved := Array.replicate 29 none
  statics := none }

def pool2 : Array CpInfo := pool [(2, .class_ 4), (1, u "java/lang/Object"), (3, .class_ 10), (1, u "com/example/weaverbird/weaverbird/format/BinaryXmlParser"), (0, u "resourceIds"), (0, u "[I"), (18, u "data"), (0, u "Ljava/nio/ByteBuffer;"), (46, u "strings"), (0, u "Lcom/example/weaverbird/weaverbird/format/StringPool;"), (34, u "root"), (0, u "Lcom/example/weaverbird/weaverbird/format/XmlElement;"), (80, u "PLATFORM_ATTRIBUTES"), (0, u "Ljava/util/Map;"), (7, u "BOOLEAN_ATTRIBUTES"), (0, u "Ljava/util/Set;"), (89, u "FRACTION_BITS"), (8, u "DIMENSION_UNITS"), (0, u "Ljava/util/List;"), (72, u "XML"), (0, u "I"), (2, u "RESOURCE_MAP"), (1, u "START_ELEMENT"), (1, u "END_ELEMENT"), (1, u "NODE_HEADER_SIZE"), (1, u "ELEMENT_SIZE"), (1, u "ATTRIBUTE_SIZE"), (6, u "isBinaryXml"), (0, u "([B)Z")] 35

def k2c0 : Code := { maxStack := 2, maxLocals := 1, code := prog_36_method_2_code, exceptionTable := #[], attributes := #[] }
def k2m0 : Method := { name := "isBinaryXml", desc := "([B)Z", sig := { parameters := [(.array .byte)], returnType := some .boolean }, accessFlags := 8, code := some k2c0 }
/-- com/example/weaverbird/weaverbird/format/BinaryXmlParser -/
def k2 : Class := { plain "com/example/weaverbird/weaverbird/format/BinaryXmlParser" (some 0) with
  accessFlags := 48
  interfaces := #[]
  cf := some (fileOf pool2 8 #[] #[{ accessFlags := 8, nameIndex := 401, descriptorIndex := 402, attributes := #[] }] 48 2 #[] #[{ accessFlags := 26, nameIndex := 380, descriptorIndex := 381, attributes := #[] }, { accessFlags := 26, nameIndex := 384, descriptorIndex := 381, attributes := #[] }, { accessFlags := 26, nameIndex := 386, descriptorIndex := 381, attributes := #[] }, { accessFlags := 26, nameIndex := 388, descriptorIndex := 381, attributes := #[] }, { accessFlags := 26, nameIndex := 390, descriptorIndex := 381, attributes := #[] }, { accessFlags := 26, nameIndex := 392, descriptorIndex := 381, attributes := #[] }, { accessFlags := 26, nameIndex := 394, descriptorIndex := 381, attributes := #[] }, { accessFlags := 26, nameIndex := 306, descriptorIndex := 307, attributes := #[] }, { accessFlags := 26, nameIndex := 297, descriptorIndex := 12, attributes := #[] }, { accessFlags := 26, nameIndex := 197, descriptorIndex := 198, attributes := #[] }, { accessFlags := 26, nameIndex := 206, descriptorIndex := 207, attributes := #[] }, { accessFlags := 18, nameIndex := 31, descriptorIndex := 32, attributes := #[] }, { accessFlags := 2, nameIndex := 115, descriptorIndex := 116, attributes := #[] }, { accessFlags := 2, nameIndex := 79, descriptorIndex := 80, attributes := #[] }, { accessFlags := 2, nameIndex := 11, descriptorIndex := 12, attributes := #[] }])
  fields := #[{ name := "XML", type := .int, accessFlags := 26, slot := 0, constantValue := 0 }, { name := "RESOURCE_MAP", type := .int, accessFlags := 26, slot := 1, constantValue := 0 }, { name := "START_ELEMENT", type := .int, accessFlags := 26, slot := 2, constantValue := 0 }, { name := "END_ELEMENT", type := .int, accessFlags := 26, slot := 3, constantValue := 0 }, { name := "NODE_HEADER_SIZE", type := .int, accessFlags := 26, slot := 4, constantValue := 0 }, { name := "ELEMENT_SIZE", type := .int, accessFlags := 26, slot := 5, constantValue := 0 }, { name := "ATTRIBUTE_SIZE", type := .int, accessFlags := 26, slot := 6, constantValue := 0 }, { name := "DIMENSION_UNITS", type := (.object "java/util/List"), accessFlags := 26, slot := 7, constantValue := 0 }, { name := "FRACTION_BITS", type := (.array .int), accessFlags := 26, slot := 8, constantValue := 0 }, { name := "PLATFORM_ATTRIBUTES", type := (.object "java/util/Map"), accessFlags := 26, slot := 9, constantValue := 0 }, { name := "BOOLEAN_ATTRIBUTES", type := (.object "java/util/Set"), accessFlags := 26, slot := 10, constantValue := 0 }, { name := "data", type := (.object "java/nio/ByteBuffer"), accessFlags := 18, slot := 0, constantValue := 0 }, { name := "root", type := (.object "com/example/weaverbird/weaverbird/format/XmlElement"), accessFlags := 2, slot := 1, constantValue := 0 }, { name := "strings", type := (.object "com/example/weaverbird/weaverbird/format/StringPool"), accessFlags := 2, slot := 2, constantValue := 0 }, { name := "resourceIds", type := (.array .int), accessFlags := 2, slot := 3, constantValue := 0 }]
  methods := #[k2m0]
  instanceTypes := #[(.object "java/nio/ByteBuffer"), (.object "com/example/weaverbird/weaverbird/format/XmlElement"), (.object "com/example/weaverbird/weaverbird/format/StringPool"), (.array .int)]
  staticTypes := #[.int, .int, .int, .int, .int, .int, .int, (.object "java/util/List"), (.array .int), (.object "java/util/Map"), (.object "java/util/Set")]
  resolved := Array.replicate 438 none
  statics := none }

def pool3 : Array CpInfo := pool [(1, u "java/lang/Cloneable"), (0, .class_ 1), (0, u "java/lang/Object"), (0, .class_ 3)] 3

/-- java/lang/Cloneable -/
def k3 : Class := { plain "java/lang/Cloneable" (some 0) with
  accessFlags := 1537
  interfaces := #[]
  cf := some (fileOf pool3 2 #[] #[] 1537 4 #[] #[])
  fields := #[]
  methods := #[]
  instanceTypes := #[]
  staticTypes := #[]
  resolved := Array.replicate 8 none
  statics := none }

def pool4 : Array CpInfo := pool [(1, u "java/io/Serializable"), (0, .class_ 1), (0, u "java/lang/Object"), (0, .class_ 3)] 3

/-- java/io/Serializable -/
def k4 : Class := { plain "java/io/Serializable" (some 0) with
  accessFlags := 1537
  interfaces := #[]
  cf := some (fileOf pool4 2 #[] #[] 1537 4 #[] #[])
  fields := #[]
  methods := #[]
  instanceTypes := #[]
  staticTypes := #[]
  resolved := Array.replicate 8 none
  statics := none }

/-- the primitive byte -/
def k5 : Class := { plain "byte" none with kind := .primitive 'B', accessFlags := 0x411 }
/-- [B -/
def k6 : Class := { plain "[B" (some 0) with kind := .array 5 .byte, interfaces := #[3, 4], accessFlags := 1041 }

/-- the primitive int -/
def k7 : Class := { plain "int" none with kind := .primitive 'I', accessFlags := 0x411 }
/-- [I -/
def k8 : Class := { plain "[I" (some 0) with kind := .array 7 .int, interfaces := #[3, 4], accessFlags := 1041 }

def heap : Heap := #[]
def classes : Array Class := #[k0, k1, k2, k3, k4, k5, k6, k7, k8]
def interned : List (Array UInt16 × Addr) := []
def slotsUsed : Nat := 0
def theMethod : MethodId := ⟨1, 2⟩
def args0 : Array Value := #[.int 65, .int 2, .int 3]
def aboutOver (below : List Frame) : State where
  vm := { classes := classes, interned := interned.toArray }
  heap := heap
  slotsUsed := slotsUsed
  threads := #[{ frames := .invoking theMethod args0 :: below }]
def below0 : List Frame := [.native { method := ⟨0, 0⟩, args := #[] }]
def about1 : State := aboutOver below0
def p0 : Program := .bare "" "" ""
def e0 : Env := launch0.env 0 0 0
theorem w_frames : about1.frames = Frame.invoking theMethod args0 :: below0 := rfl
set_option maxRecDepth 65536 in
theorem w_args : argsFit about1.vm theMethod args0 = true := by decide +kernel
set_option maxRecDepth 65536 in
theorem w_heap : heapFits about1 = true := by decide +kernel
set_option maxRecDepth 65536 in
theorem w_runnable : about1.curStatus? = some .runnable := by decide +kernel
set_option maxRecDepth 65536 in
theorem w_alone : about1.alone = true := by decide +kernel
set_option maxRecDepth 65536 in
theorem w_named : about1.methodNamed? x = some theMethod := by decide +kernel
set_option maxRecDepth 65536 in
theorem w_hears : about1.hears theMethod below0 = true := by decide +kernel
set_option maxRecDepth 65536 in
theorem w_ripe : about1.ripe theMethod args0 below0 = true := by decide +kernel
theorem w_running : about1.status = .running := rfl
set_option maxRecDepth 65536 in
theorem w_room : about1.hasRoom e0.platform room_1 = true :=
  launch0.hasRoom_least _ room_1 (by decide +kernel) (by decide +kernel) (by decide +kernel) (by decide +kernel) (by decide +kernel) (by decide +kernel)
theorem allAtoms_all (ts : List Jvm.Cond) (a : Array Jvm.Value) (st : Jvm.State) : (allAtoms ts).before a st = ts.all (fun c => c.before a st) := by
  induction ts with
  | nil => rfl
  | cons c t ih =>
    show (Jvm.Cond.and c (allAtoms t)).before a st = _
    rw [Jvm.Cond.before_and, ih, List.all_cons]
def words1 : List Jvm.Cond := Jvm.Cond.code x code maxLocals ret :: tables_1
/-- a 'code' word, met by the world's own term for the bytes: nothing is compared byte by byte -/
theorem code_word {y : MethodName} {bytes : ByteArray} {mx : Nat} {rt : Option FieldType} {a : Array Value} {s : State} {m : MethodId} {meth : Method} {c : Code} (h1 : s.methodNamed? y = some m) (h2 : s.vm.method? m = some meth) (h3 : meth.code = some c) (h4 : c.code = bytes)
    (h5 : (c.maxLocals == mx && c.exceptionTable.isEmpty && decide (c.maxStack ≤ mostOperands) && decide (meth.sig.returnType = rt) && !meth.locks && decide (parseMethodDescriptor y.desc = some meth.sig)) = true) : (Jvm.Cond.code y bytes mx rt).before a s = true := by
  simp only [Bool.and_eq_true, beq_iff_eq, Bool.not_eq_true', decide_eq_true_eq] at h5
  obtain ⟨⟨⟨⟨⟨g1, g2⟩, g3⟩, g4⟩, g5⟩, g6⟩ := h5
  simp [Cond.before, Cond.holds, Cond.value, h1, h2, h3, h4, g1, g2, g3, g4, g5, g6]
def isCode : Jvm.Cond → Bool
  | .code _ _ _ _ => true
  | _ => false
theorem all_split {L : List Jvm.Cond} {P : Jvm.Cond → Bool} (h1 : L.all (fun c => isCode c || P c) = true) (h2 : ∀ c ∈ L.filter isCode, P c = true) : L.all P = true := by
  refine List.all_eq_true.mpr fun c hc => ?_
  have h := List.all_eq_true.mp h1 c hc
  rcases Bool.eq_false_or_eq_true (isCode c) with hi | hi
  · exact h2 c (List.mem_filter.mpr ⟨hc, hi⟩)
  · simpa [hi] using h
set_option maxRecDepth 65536 in
theorem w_c0 : (Jvm.Cond.code x code maxLocals ret).before args0 about1 = true := code_word (m := ⟨1, 2⟩) (meth := k1m2) (c := k1c2) (by decide +kernel) rfl rfl rfl (by decide +kernel)
set_option maxRecDepth 65536 in
theorem w_c1 : (Jvm.Cond.code ({ cls := "com/example/weaverbird/weaverbird/format/BinaryXmlParser", name := "isBinaryXml", desc := "([B)Z" } : Jvm.MethodName) prog_36_method_2_code (1 : Nat) (Option.some Jvm.ClassFile.FieldType.boolean)).before args0 about1 = true := code_word (m := ⟨2, 0⟩) (meth := k2m0) (c := k2c0) (by decide +kernel) rfl rfl rfl (by decide +kernel)
set_option maxRecDepth 65536 in
theorem w_c2 : (Jvm.Cond.code ({ cls := "com/example/weaverbird/weaverbird/format/BinaryXmlParserIsBinaryXmlPinLaw", name := "pick", desc := "(IIII)B" } : Jvm.MethodName) method_2_code (4 : Nat) (Option.some Jvm.ClassFile.FieldType.byte)).before args0 about1 = true := code_word (m := ⟨1, 1⟩) (meth := k1m1) (c := k1c1) (by decide +kernel) rfl rfl rfl (by decide +kernel)
def codes1 : List Jvm.Cond := [Jvm.Cond.code x code maxLocals ret, Jvm.Cond.code ({ cls := "com/example/weaverbird/weaverbird/format/BinaryXmlParser", name := "isBinaryXml", desc := "([B)Z" } : Jvm.MethodName) prog_36_method_2_code (1 : Nat) (Option.some Jvm.ClassFile.FieldType.boolean), Jvm.Cond.code ({ cls := "com/example/weaverbird/weaverbird/format/BinaryXmlParserIsBinaryXmlPinLaw", name := "pick", desc := "(IIII)B" } : Jvm.MethodName) method_2_code (4 : Nat) (Option.some Jvm.ClassFile.FieldType.byte)]
set_option maxRecDepth 65536 in
theorem codes_eq : words1.filter isCode = codes1 := rfl
theorem w_codes : ∀ c ∈ words1.filter isCode, c.before args0 about1 = true := by
  rw [codes_eq]
  intro c hc
  simp only [codes1, List.mem_cons, List.not_mem_nil, or_false] at hc
  rcases hc with rfl | rfl | rfl
  · exact w_c0
  · exact w_c1
  · exact w_c2
set_option maxRecDepth 65536 in
theorem w_t1 : words1.all (fun c => isCode c || c.before args0 about1) = true := by decide +kernel
theorem w_tables : (allAtoms (Jvm.Cond.code x code maxLocals ret :: tables_1)).before args0 about1 = true := by
  rw [allAtoms_all]
  show words1.all (fun c => c.before args0 about1) = true
  refine all_split ?_ w_codes
  rw [w_t1]
set_option maxRecDepth 65536 in
theorem w_case : (Jvm.Cond.and given_1 narrow_1).before args0 about1 = true := by decide +kernel
theorem w_applies : (headSpec (Jvm.Cond.code x code maxLocals ret :: tables_1) room_1).applies x e0.platform about1 = true :=
  (Spec.applies_iff w_frames).mpr ⟨w_running, w_runnable, w_alone, w_named, w_hears, w_ripe, w_room, w_tables⟩
theorem atStart : AtStart classFile x code maxLocals ret World_1 tables_1 room_1 Calls_1 rest_1 Pre_1 launch0 p0 e0 about1 theMethod args0 below0 :=
  ⟨lists_1, trivial, launch0.admits_env _ _ _, launch0.least_env, fairChoices_fair.cas, fairChoices_fair.clock, w_frames, w_args, w_heap, w_applies, trivial, trivial, w_case⟩
end start1
theorem witness_1 : WitnessClaimed_1 := ⟨start1.p0, start1.e0, start1.about1, start1.theMethod, start1.args0, start1.below0, start1.atStart⟩
end Jvm.Pilot.@@N@@
