import JvmDerived
import JvmDerived.Pilot.@@N@@Statement
import JvmDerived.Pilot.@@N@@Code
set_option linter.unusedVariables false
set_option linter.unusedSimpArgs false
namespace Jvm.RoadKit
open Sem ClassFile Op Lib Jvm.Stand Jvm.Free Jvm.LawKit
def IAr (Z : State) (h : Heap) (a : Addr) (ty : FieldType) (n : Int32) (f : Nat → Int32) : Prop := ∃ c : Cell, Arr Z h a c ty ∧ c.slots.size = n.toNatClampNeg ∧ ¬ n < 0 ∧ ∀ i, i < c.slots.size → c.slots[i]? = some (.int (f i))
def ownU (f : Nat → Int32) (j : Nat) (v : Int32) : Nat → Int32 := fun i => if i = j then v else f i
section
variable {Z : State} {h h' : Heap} {a b : Addr} {ty : FieldType} {n : Int32} {f : Nat → Int32} {sl : Nat} {v : Value} {ws : List Addr}
theorem IAr.lt (F : IAr Z h a ty n f) : a < h.size := by obtain ⟨c, A, -⟩ := F; exact A.lt
theorem IAr.ext (F : IAr Z h a ty n f) (E : Ext h h') : IAr Z h' a ty n f := by obtain ⟨c, A, r⟩ := F; exact ⟨c, A.ext E, r⟩
theorem IAr.other (F : IAr Z h b ty n f) (W : Wr h h' a sl v) (q : b ≠ a) : IAr Z h' b ty n f := by obtain ⟨c, A, r⟩ := F; exact ⟨c, A.other W q, r⟩
theorem IAr.keep (F : IAr Z h a ty n f) (K : Keep h h' ws) (q : a ∉ ws) : IAr Z h' a ty n f := by obtain ⟨c, A, r⟩ := F; exact ⟨c, ⟨K.2.1 a c A.1 q, A.2⟩, r⟩
theorem IAr.nn (F : IAr Z h a ty n f) : ¬ n < 0 := by obtain ⟨c, A, S, q, r⟩ := F; exact q
theorem IAr.new {k : ClassId} {z : Int32} (A : Arr Z h a (newA k ty z) ty) (q : ¬ z < 0) (hd : defaultValue ty = .int 0) : IAr Z h a ty z (fun _ => 0) := by
  obtain ⟨c, A', -, S, q', H, -⟩ := Arv.new A q
  exact ⟨c, A', S, q', fun i hi => by have h1 := H i hi; rw [hd] at h1; simpa using h1⟩
theorem IAr.set {j : Nat} {x : Int32} (F : IAr Z h a ty n f) (W : Wr h h' a j (.int x)) : IAr Z h' a ty n (ownU f j x) := by
  obtain ⟨c, A, S, q, H⟩ := F
  refine ⟨c.setSlot j (.int x), A.same W, ?_, q, fun i hi => ?_⟩
  · simpa [Cell.setSlot] using S
  · have hi' : i < c.slots.size := by simpa [Cell.setSlot] using hi
    show (c.slots.setIfInBounds j (.int x))[i]? = some (.int (if i = j then x else f i))
    by_cases e : i = j
    · subst e
      rw [if_pos rfl, Array.getElem?_setIfInBounds_self_of_lt hi']
    · rw [if_neg e, Array.getElem?_setIfInBounds_ne (Ne.symm e)]
      exact H i hi'
end
section New
variable {p : Program} {l : Launch} {e : Env} {R : Room} {s : State} {m : MethodId} {args : Array Value} {below : List Frame} {meth : Method} {c : Code} {T : State} {locs : List Loc} {cells slots : Nat}
theorem retI (X : Stand p l e R s m args below meth c T locs cells slots) (hx : p.tables.exec = Jvm.exec) {pc : Nat} {Ls : Array Slot} {z : Int32} {rest : List Value} (hret : meth.sig.returnType = some .int) (hd : decode c.code pc = .ok (.ireturn, 1)) {fs : List Frame}
    (hl : ∀ (f : JFrame) (acts : List Action), f.method = m → f.locked = none → f.entered = [] → (doReturn e (T.setTop f) acts (some (.int z))).1 = T.setFrames fs) : Steps p.tables e below (T.setTop (mkF m pc Ls (.int z :: rest))) (T.setFrames fs) := by
  have hm' : T.vm.method? m = some meth := X.method'
  have hn : narrow .int (.int z) = .int z := rfl
  show Steps p.tables e below (T.setTop { method := m, pc := pc, locals := Ls, stack := _ :: rest, locked := none }) _
  jvm_step X.here [X.here.top, hx, hd, hm', hret, hn]
  first | (intro acts; rw [hl _ acts rfl rfl rfl]) | rw [hl _ _ rfl rfl rfl]
  exact Steps.refl _
theorem ldB {Z : State} {h : Heap} (X : Stand p l e R s m args below meth c T locs cells slots) (hx : p.tables.exec = Jvm.exec) (hZ : Z.Warmed39 s.vm) (eT : T.heap = h) {a : Addr} {n : Int32} {f : Nat → Int32} (F : IAr Z h a .byte n f) {j : Int32} (hj : ¬ j < 0 ∧ j < n) {g : JFrame} (hg : g.method = m) {rest : List Value} (hs : g.stack = .int j :: .ref a :: rest) (hd : decode c.code g.pc = .ok (.baload, 1)) {target : State}
    (hr : Steps p.tables e below (T.setTop { g with pc := g.pc + 1, stack := .int (f j.toNatClampNeg) :: rest }) target) : Steps p.tables e below (T.setTop g) target := by
  obtain ⟨cl, A, S, q, H⟩ := F
  exact X.baloadBytes hx (by rw [eT]; exact A.1) (State.isArrayOf_alike hZ.alike A.2.1) A.2.2 (inb_of S hj) (H _ (Nat.lt_of_not_le fun y => inb_of S hj (Or.inr y))) hg hs hd _ hr
theorem sB {Z : State} {h : Heap} (X : Stand p l e R s m args below meth c T locs cells slots) (hx : p.tables.exec = Jvm.exec) (hZ : Z.Warmed39 s.vm) (eT : T.heap = h) {a : Addr} {n : Int32} {f : Nat → Int32} (F : IAr Z h a .byte n f) {j : Int32} {x : Int32} (hj : ¬ j < 0 ∧ j < n) {g : JFrame} (hg : g.method = m) {rest : List Value} (hs : g.stack = .int x :: .int j :: .ref a :: rest) (hd : decode c.code g.pc = .ok (.bastore, 1)) :
    ∃ T' h', Stand p l e R s m args below meth c T' (locs ++ [⟨a, j.toNatClampNeg⟩]) cells slots ∧ T'.heap = h' ∧ Wr h h' a j.toNatClampNeg (.int (nar .byte x)) ∧ IAr Z h' a .byte n (ownU f j.toNatClampNeg (nar .byte x)) ∧ ∀ target, Steps p.tables e below (T'.setTop { g with pc := g.pc + 1, stack := rest }) target → Steps p.tables e below (T.setTop g) target := by
  have F' := F
  obtain ⟨cl, A, S, q, H⟩ := F
  obtain ⟨T', h', X', e', W', st'⟩ := stB X hx hZ eT A (inb_of S hj) hg hs hd
  exact ⟨T', h', X', e', W', F'.set W', st'⟩
theorem alen {Z : State} {h : Heap} (X : Stand p l e R s m args below meth c T locs cells slots) (hx : p.tables.exec = Jvm.exec) (hZ : Z.Warmed39 s.vm) (eT : T.heap = h) {a : Addr} {ty : FieldType} {n : Int32} {f : Nat → Int32} (F : IAr Z h a ty n f) {g : JFrame} (hg : g.method = m) {rest : List Value} (hs : g.stack = .ref a :: rest) (hd : decode c.code g.pc = .ok (.arraylength, 1)) {target : State}
    (hr : Steps p.tables e below (T.setTop { g with pc := g.pc + 1, stack := .int n :: rest }) target) : Steps p.tables e below (T.setTop g) target := by
  obtain ⟨cl, A, S, q, H⟩ := F
  refine X.arraylength hx (by rw [eT]; exact A.1) (State.isArrayOf_alike hZ.alike A.2.1) hg hs hd _ ?_
  rw [len_of S q]
  exact hr
end New
end Jvm.RoadKit
namespace Jvm.Pilot.@@N@@
open Jvm Jvm.ClassFile Sem Op Lib Jvm.Free Jvm.Stand Jvm.LawKit Jvm.RoadKit Bundle Jvm.Pilot.@@N@@.Jvm.D
theorem own_rem (x y : Int32) : x - (x / y) * y = x % y := by
  apply Int32.toInt_inj.mp
  have h1 := Int32.le_toInt (x % y)
  have h2 := Int32.toInt_lt (x % y)
  rw [Int32.toInt_sub, Int32.toInt_mul, Int32.toInt_div, Int.bmod_mul_bmod, Int.sub_bmod_bmod, Int.mul_comm (x.toInt.tdiv y.toInt), ← Int.tmod_def, ← Int32.toInt_mod]
  exact Int.bmod_eq_of_le_mul_two (by omega) (by omega)
theorem own_nat (x : Int32) : (x.toBitVec.toNat : Int) = x.toInt % 4294967296 := by
  have h := x.toBitVec.isLt
  show _ = x.toBitVec.toInt % 4294967296
  rw [BitVec.toInt_eq_toNat_cond]; split <;> omega
theorem own_mask (x m : Int32) (k : Nat) (hm : m.toBitVec.toNat = 2 ^ k - 1) : (x &&& m).toBitVec.toNat = x.toBitVec.toNat % 2 ^ k := by
  show (x.toBitVec &&& m.toBitVec).toNat = _
  rw [BitVec.toNat_and, hm, Nat.and_two_pow_sub_one_eq_mod]
theorem own_in {i t z : Int32} {k : Nat} (hI : 0 ≤ i.toInt ∧ i.toInt ≤ t.toInt ∧ t.toInt ≤ z.toInt ∧ t.toInt - i.toInt < ((k + 1 : Nat) : Int)) (h : i < t) : ¬ i < 0 ∧ i < z := by
  simp only [Int32.lt_iff_toInt_lt, show (0 : Int32).toInt = 0 from rfl] at h ⊢
  omega
theorem own_step {i t z : Int32} {k : Nat} (hI : 0 ≤ i.toInt ∧ i.toInt ≤ t.toInt ∧ t.toInt ≤ z.toInt ∧ t.toInt - i.toInt < ((k + 1 : Nat) : Int)) (h : i < t) : 0 ≤ (i + 1).toInt ∧ (i + 1).toInt ≤ t.toInt ∧ t.toInt ≤ z.toInt ∧ t.toInt - (i + 1).toInt < (k : Int) := by
  simp only [Int32.lt_iff_toInt_lt] at h
  have h1 := c_iadd i 1
  have e1 : (1 : Int32).toInt = 1 := rfl
  have r1 := rng32 (i + 1)
  have r2 := rng32 t
  omega
theorem own_init {i t z : Int32} (hq : 0 ≤ i.toInt ∧ t.toInt ≤ z.toInt ∧ t.toInt ≤ 4) (h : i < t) : 0 ≤ i.toInt ∧ i.toInt ≤ t.toInt ∧ t.toInt ≤ z.toInt ∧ t.toInt - i.toInt < ((5 : Nat) : Int) := by
  simp only [Int32.lt_iff_toInt_lt] at h
  omega
theorem own_r5 (x : Int32) : 0 ≤ ((x &&& 2147483647) - ((x &&& 2147483647) / 5) * 5).toInt ∧ ((x &&& 2147483647) - ((x &&& 2147483647) / 5) * 5).toInt < 5 := by
  rw [own_rem]
  have h := c_mask x 2147483647 31 (by decide) (by decide)
  have h2 := (c_irem (x &&& 2147483647) 5 5 rfl).1 (by rw [h]; omega)
  omega

theorem pn_0 : plainName "com/example/hoardr/hoardr/http/FramingIsDigitsPinLaw" = true := by first | (simp [plainName, overriddenIn]; done) | decide +kernel
theorem d3_0 : decode method_2_code 0 = .ok (.iload_n 0, 1) := by decide +kernel
theorem d3_1 : decode method_2_code 1 = .ok (.bipush 48, 2) := by decide +kernel
theorem d3_3 : decode method_2_code 3 = .ok (.if_icmp .lt 13, 3) := by decide +kernel
theorem d3_6 : decode method_2_code 6 = .ok (.iload_n 0, 1) := by decide +kernel
theorem d3_7 : decode method_2_code 7 = .ok (.bipush 57, 2) := by decide +kernel
theorem d3_9 : decode method_2_code 9 = .ok (.if_icmp .gt 7, 3) := by decide +kernel
theorem d3_12 : decode method_2_code 12 = .ok (.iconst 1, 1) := by decide +kernel
theorem d3_13 : decode method_2_code 13 = .ok (.goto 4, 3) := by decide +kernel
theorem d3_16 : decode method_2_code 16 = .ok (.iconst 0, 1) := by decide +kernel
theorem d3_17 : decode method_2_code 17 = .ok (.ireturn, 1) := by decide +kernel
theorem ef_3 (m : MethodId) (x0 : Int32) : entryFrame m #[(.int x0)] 1 = mkF m 0 #[.val (.int x0)] [] := by first | (simp [entryFrame, mkF, argsToLocals, Value.category]; done) | rfl
def f3 (p1 : Int32) : Int32 := (if p1 < (48 : Int32) then (0 : Int32) else (if (57 : Int32) < p1 then (0 : Int32) else (1 : Int32)))
def Q3 (Z : State) (p1 : Int32) (h0 : Heap) (n0 : Nat) (v : Option Value) (h : Heap) (L : List Loc) : Prop := v = some (.int (f3 p1)) ∧ Fr n0 L ∧ h = h0
set_option maxRecDepth 65536 in
set_option maxHeartbeats 40000000 in
theorem rm3 (l : Launch) (Z : State) (a0 : Array Value) (hw : ∀ d ∈ tables_1, d.before a0 Z = true) (ws : List Jvm.Cond) (p1 : Int32) (h0 : Heap) (n0 : Nat) (Z0 : n0 ≤ h0.size) :
    MetFree l (⟨"com/example/hoardr/hoardr/http/FramingIsDigitsPinLaw", "digit", "(B)Z"⟩ : MethodName) (head1 (Jvm.Cond.code (⟨"com/example/hoardr/hoardr/http/FramingIsDigitsPinLaw", "digit", "(B)Z"⟩ : MethodName) method_2_code 1 (some .boolean) :: ws) ({ frames := 0, cells := 0, slots := 0, locals := 0 } : Room)) (fun a U => a = #[(.int p1)] ∧ Z.Warmed39 U.vm ∧ U.heap = h0) (fun _ _ _ _ _ => True) (fun _ U o U' => ∃ v L, o = .returned v ∧ Q3 Z p1 h0 n0 v U'.heap L ∧ FrameEnd U o U' L ({ frames := 0, cells := 0, slots := 0, locals := 0 } : Room).cells ({ frames := 0, cells := 0, slots := 0, locals := 0 } : Room).slots) := by
  refine MetFree.of_bodySF (plainFor_of_name pn_0) hisR ?_
  intro p e s m args below meth c s₁ Bd hml0 hP hK
  obtain ⟨rfl, hZ, hh⟩ := hP
  have hx := Bd.exec
  have hby := Bd.bytes
  have hml : c.maxLocals = 1 := hml0
  have hown : s.vm.findClass "com/example/hoardr/hoardr/http/FramingIsDigitsPinLaw" = some m.cls := findClass_of_methodNamed Bd.named
  have hnm := (name_of_methodNamed Bd.named Bd.method).1
  have X0 : Stand p l e ({ frames := 0, cells := 0, slots := 0, locals := 0 } : Room) s m #[(.int p1)] below meth c s₁ [] 0 0 := Stand.of_body Bd
  have e0 : s₁.heap = h0 := by rw [← hh, Bd.state]; rfl
  have N0 := Fr.nil n0
  have pre0 : ∀ t, Steps p.tables e below (s₁.setTop (mkF m 0 #[.val (.int p1)] [])) t → Steps p.tables e below (s₁.setTop (entryFrame m #[(.int p1)] 1)) t := fun t k => castTop (ef_3 m p1) k
  have pre1 : ∀ t, Steps p.tables e below (s₁.setTop (mkF m 3 #[.val (.int p1)] [(.int (48 : Int32)), (.int p1)])) t → Steps p.tables e below (s₁.setTop (entryFrame m #[(.int p1)] 1)) t := by
    intro t k
    refine pre0 t ?_
    show Steps p.tables e below (s₁.setTop (mkF m 0 #[.val (.int p1)] [])) _
    refine XS.iloadN X0.here hx rfl (hb hby d3_0) rfl ?_
    show Steps p.tables e below (s₁.setTop (mkF m 1 #[.val (.int p1)] [(.int p1)])) _
    refine XS.bipush X0.here hx rfl (hb hby d3_1) ?_
    exact k
  by_cases hc3 : p1 < (48 : Int32)
  · have eq2 : (f3 p1) = (0 : Int32) := by unfold f3; simp only [if_pos hc3]
    obtain ⟨fs, hr, hrun, hended, hW, hsame⟩ := X0.leave (v := some (.int (0 : Int32))) (fun h => by rw [Bd.returns] at h; cases h)
    refine ⟨_, _, pre1 _ ?_, hrun, hended, _, _, rfl, ?_, ⟨_, rfl⟩, hW, hsame.mono (by decide) (by decide)⟩
    · show Steps p.tables e below (s₁.setTop (mkF m 3 #[.val (.int p1)] [(.int (48 : Int32)), (.int p1)])) _
      refine XS.icmpYes X0.here hx rfl (pc0 := 3) (pc' := 16) rfl (hb hby d3_3) rfl (tlt hc3).1 (by decide) (by decide) ?_
      show Steps p.tables e below (s₁.setTop (mkF m 16 #[.val (.int p1)] [])) _
      refine XS.iconst X0.here hx rfl (hb hby d3_16) ?_
      show Steps p.tables e below (s₁.setTop (mkF m 17 #[.val (.int p1)] [(.int (0 : Int32))])) _
      exact retN X0 hx (t := .boolean) Bd.returns (by simp) (hb hby d3_17) hr
    · show Q3 Z p1 h0 n0 _ s₁.heap _
      rw [e0]
      exact ⟨by rw [eq2], N0, rfl⟩
  · have pre3 : ∀ t, Steps p.tables e below (s₁.setTop (mkF m 9 #[.val (.int p1)] [(.int (57 : Int32)), (.int p1)])) t → Steps p.tables e below (s₁.setTop (entryFrame m #[(.int p1)] 1)) t := by
      intro t k
      refine pre1 t ?_
      show Steps p.tables e below (s₁.setTop (mkF m 3 #[.val (.int p1)] [(.int (48 : Int32)), (.int p1)])) _
      refine XS.icmpNo X0.here hx rfl (hb hby d3_3) rfl (flt hc3).1 ?_
      show Steps p.tables e below (s₁.setTop (mkF m 6 #[.val (.int p1)] [])) _
      refine XS.iloadN X0.here hx rfl (hb hby d3_6) rfl ?_
      show Steps p.tables e below (s₁.setTop (mkF m 7 #[.val (.int p1)] [(.int p1)])) _
      refine XS.bipush X0.here hx rfl (hb hby d3_7) ?_
      exact k
    by_cases hc9 : (57 : Int32) < p1
    · have eq4 : (f3 p1) = (0 : Int32) := by unfold f3; simp only [if_neg hc3, if_pos hc9]
      obtain ⟨fs, hr, hrun, hended, hW, hsame⟩ := X0.leave (v := some (.int (0 : Int32))) (fun h => by rw [Bd.returns] at h; cases h)
      refine ⟨_, _, pre3 _ ?_, hrun, hended, _, _, rfl, ?_, ⟨_, rfl⟩, hW, hsame.mono (by decide) (by decide)⟩
      · show Steps p.tables e below (s₁.setTop (mkF m 9 #[.val (.int p1)] [(.int (57 : Int32)), (.int p1)])) _
        refine XS.icmpYes X0.here hx rfl (pc0 := 9) (pc' := 16) rfl (hb hby d3_9) rfl (tlt hc9).2.2.1 (by decide) (by decide) ?_
        show Steps p.tables e below (s₁.setTop (mkF m 16 #[.val (.int p1)] [])) _
        refine XS.iconst X0.here hx rfl (hb hby d3_16) ?_
        show Steps p.tables e below (s₁.setTop (mkF m 17 #[.val (.int p1)] [(.int (0 : Int32))])) _
        exact retN X0 hx (t := .boolean) Bd.returns (by simp) (hb hby d3_17) hr
      · show Q3 Z p1 h0 n0 _ s₁.heap _
        rw [e0]
        exact ⟨by rw [eq4], N0, rfl⟩
    · have eq5 : (f3 p1) = (1 : Int32) := by unfold f3; simp only [if_neg hc3, if_neg hc9]
      obtain ⟨fs, hr, hrun, hended, hW, hsame⟩ := X0.leave (v := some (.int (1 : Int32))) (fun h => by rw [Bd.returns] at h; cases h)
      refine ⟨_, _, pre3 _ ?_, hrun, hended, _, _, rfl, ?_, ⟨_, rfl⟩, hW, hsame.mono (by decide) (by decide)⟩
      · show Steps p.tables e below (s₁.setTop (mkF m 9 #[.val (.int p1)] [(.int (57 : Int32)), (.int p1)])) _
        refine XS.icmpNo X0.here hx rfl (hb hby d3_9) rfl (flt hc9).2.2.1 ?_
        show Steps p.tables e below (s₁.setTop (mkF m 12 #[.val (.int p1)] [])) _
        refine XS.iconst X0.here hx rfl (hb hby d3_12) ?_
        show Steps p.tables e below (s₁.setTop (mkF m 13 #[.val (.int p1)] [(.int (1 : Int32))])) _
        refine XS.goto X0.here hx rfl (pc0 := 13) (pc' := 17) rfl (hb hby d3_13) (by decide) (by decide) ?_
        show Steps p.tables e below (s₁.setTop (mkF m 17 #[.val (.int p1)] [(.int (1 : Int32))])) _
        exact retN X0 hx (t := .boolean) Bd.returns (by simp) (hb hby d3_17) hr
      · show Q3 Z p1 h0 n0 _ s₁.heap _
        rw [e0]
        exact ⟨by rw [eq5], N0, rfl⟩
theorem pd_0 : parseMethodDescriptor "(B)Z" = some ⟨[.byte], some .boolean⟩ := by decide +kernel
theorem d2_0 : decode method_3_code 0 = .ok (.iload_n 1, 1) := by decide +kernel
theorem d2_1 : decode method_3_code 1 = .ok (.iload_n 2, 1) := by decide +kernel
theorem d2_2 : decode method_3_code 2 = .ok (.if_icmp .lt 17, 3) := by decide +kernel
theorem d2_5 : decode method_3_code 5 = .ok (.iload_n 1, 1) := by decide +kernel
theorem d2_6 : decode method_3_code 6 = .ok (.iload_n 3, 1) := by decide +kernel
theorem d2_7 : decode method_3_code 7 = .ok (.if_icmp .ge 12, 3) := by decide +kernel
theorem d2_10 : decode method_3_code 10 = .ok (.aload_n 0, 1) := by decide +kernel
theorem d2_11 : decode method_3_code 11 = .ok (.iload_n 1, 1) := by decide +kernel
theorem d2_12 : decode method_3_code 12 = .ok (.baload, 1) := by decide +kernel
theorem d2_13 : decode method_3_code 13 = .ok (.invokestatic 7, 3) := by decide +kernel
theorem d2_16 : decode method_3_code 16 = .ok (.ifCond .eq 7, 3) := by decide +kernel
theorem d2_19 : decode method_3_code 19 = .ok (.iconst 1, 1) := by decide +kernel
theorem d2_20 : decode method_3_code 20 = .ok (.goto 4, 3) := by decide +kernel
theorem d2_23 : decode method_3_code 23 = .ok (.iconst 0, 1) := by decide +kernel
theorem d2_24 : decode method_3_code 24 = .ok (.ireturn, 1) := by decide +kernel
theorem ef_2 (m : MethodId) (x0 : Addr) (x1 : Int32) (x2 : Int32) (x3 : Int32) : entryFrame m #[(.ref x0), (.int x1), (.int x2), (.int x3)] 4 = mkF m 0 #[.val (.ref x0), .val (.int x1), .val (.int x2), .val (.int x3)] [] := by first | (simp [entryFrame, mkF, argsToLocals, Value.category]; done) | rfl
def f2 (p2 : Int32) (p3 : Int32) (p4 : Int32) (z_a1 : Int32) (c_a1 : Nat → Int32) : Int32 := (if p2 < p3 then (1 : Int32) else (if p2 < p4 then (if (f3 (c_a1 (p2).toNatClampNeg)) = (0 : Int32) then (0 : Int32) else (1 : Int32)) else (1 : Int32)))
def Q2 (Z : State) (a1 : Addr) (p2 : Int32) (p3 : Int32) (p4 : Int32) (z_a1 : Int32) (c_a1 : Nat → Int32) (h0 : Heap) (n0 : Nat) (v : Option Value) (h : Heap) (L : List Loc) : Prop := v = some (.int (f2 p2 p3 p4 z_a1 c_a1)) ∧ Fr n0 L ∧ h = h0
set_option maxRecDepth 65536 in
set_option maxHeartbeats 40000000 in
theorem rm2 (l : Launch) (Z : State) (a0 : Array Value) (hw : ∀ d ∈ tables_1, d.before a0 Z = true) (ws : List Jvm.Cond) (a1 : Addr) (p2 : Int32) (p3 : Int32) (p4 : Int32) (z_a1 : Int32) (c_a1 : Nat → Int32) (h0 : Heap) (n0 : Nat) (Z0 : n0 ≤ h0.size) (V_a1 : IAr Z h0 a1 .byte z_a1 c_a1) (hq1 : ¬ p2 < p3 → p2 < p4 → ¬ p2 < 0 ∧ p2 < z_a1) :
    MetFree l (⟨"com/example/hoardr/hoardr/http/FramingIsDigitsPinLaw", "okAt", "([BIII)Z"⟩ : MethodName) (head1 (Jvm.Cond.code (⟨"com/example/hoardr/hoardr/http/FramingIsDigitsPinLaw", "okAt", "([BIII)Z"⟩ : MethodName) method_3_code 4 (some .boolean) :: ws) ({ frames := 1, cells := 0, slots := 0, locals := 12 } : Room)) (fun a U => a = #[(.ref a1), (.int p2), (.int p3), (.int p4)] ∧ Z.Warmed39 U.vm ∧ U.heap = h0) (fun _ _ _ _ _ => True) (fun _ U o U' => ∃ v L, o = .returned v ∧ Q2 Z a1 p2 p3 p4 z_a1 c_a1 h0 n0 v U'.heap L ∧ FrameEnd U o U' L ({ frames := 1, cells := 0, slots := 0, locals := 12 } : Room).cells ({ frames := 1, cells := 0, slots := 0, locals := 12 } : Room).slots) := by
  refine MetFree.of_bodySF (plainFor_of_name pn_0) hisR ?_
  intro p e s m args below meth c s₁ Bd hml0 hP hK
  obtain ⟨rfl, hZ, hh⟩ := hP
  have hx := Bd.exec
  have hby := Bd.bytes
  have hml : c.maxLocals = 4 := hml0
  have hown : s.vm.findClass "com/example/hoardr/hoardr/http/FramingIsDigitsPinLaw" = some m.cls := findClass_of_methodNamed Bd.named
  have hnm := (name_of_methodNamed Bd.named Bd.method).1
  have X0 : Stand p l e ({ frames := 1, cells := 0, slots := 0, locals := 12 } : Room) s m #[(.ref a1), (.int p2), (.int p3), (.int p4)] below meth c s₁ [] 0 0 := Stand.of_body Bd
  have e0 : s₁.heap = h0 := by rw [← hh, Bd.state]; rfl
  have N0 := Fr.nil n0
  have pre0 : ∀ t, Steps p.tables e below (s₁.setTop (mkF m 0 #[.val (.ref a1), .val (.int p2), .val (.int p3), .val (.int p4)] [])) t → Steps p.tables e below (s₁.setTop (entryFrame m #[(.ref a1), (.int p2), (.int p3), (.int p4)] 4)) t := fun t k => castTop (ef_2 m a1 p2 p3 p4) k
  have pre1 : ∀ t, Steps p.tables e below (s₁.setTop (mkF m 2 #[.val (.ref a1), .val (.int p2), .val (.int p3), .val (.int p4)] [(.int p3), (.int p2)])) t → Steps p.tables e below (s₁.setTop (entryFrame m #[(.ref a1), (.int p2), (.int p3), (.int p4)] 4)) t := by
    intro t k
    refine pre0 t ?_
    show Steps p.tables e below (s₁.setTop (mkF m 0 #[.val (.ref a1), .val (.int p2), .val (.int p3), .val (.int p4)] [])) _
    refine XS.iloadN X0.here hx rfl (hb hby d2_0) rfl ?_
    show Steps p.tables e below (s₁.setTop (mkF m 1 #[.val (.ref a1), .val (.int p2), .val (.int p3), .val (.int p4)] [(.int p2)])) _
    refine XS.iloadN X0.here hx rfl (hb hby d2_1) rfl ?_
    exact k
  by_cases hc2 : p2 < p3
  · have eq2 : (f2 p2 p3 p4 z_a1 c_a1) = (1 : Int32) := by unfold f2; simp only [if_pos hc2]
    obtain ⟨fs, hr, hrun, hended, hW, hsame⟩ := X0.leave (v := some (.int (1 : Int32))) (fun h => by rw [Bd.returns] at h; cases h)
    refine ⟨_, _, pre1 _ ?_, hrun, hended, _, _, rfl, ?_, ⟨_, rfl⟩, hW, hsame.mono (by decide) (by decide)⟩
    · show Steps p.tables e below (s₁.setTop (mkF m 2 #[.val (.ref a1), .val (.int p2), .val (.int p3), .val (.int p4)] [(.int p3), (.int p2)])) _
      refine XS.icmpYes X0.here hx rfl (pc0 := 2) (pc' := 19) rfl (hb hby d2_2) rfl (tlt hc2).1 (by decide) (by decide) ?_
      show Steps p.tables e below (s₁.setTop (mkF m 19 #[.val (.ref a1), .val (.int p2), .val (.int p3), .val (.int p4)] [])) _
      refine XS.iconst X0.here hx rfl (hb hby d2_19) ?_
      show Steps p.tables e below (s₁.setTop (mkF m 20 #[.val (.ref a1), .val (.int p2), .val (.int p3), .val (.int p4)] [(.int (1 : Int32))])) _
      refine XS.goto X0.here hx rfl (pc0 := 20) (pc' := 24) rfl (hb hby d2_20) (by decide) (by decide) ?_
      show Steps p.tables e below (s₁.setTop (mkF m 24 #[.val (.ref a1), .val (.int p2), .val (.int p3), .val (.int p4)] [(.int (1 : Int32))])) _
      exact retN X0 hx (t := .boolean) Bd.returns (by simp) (hb hby d2_24) hr
    · show Q2 Z a1 p2 p3 p4 z_a1 c_a1 h0 n0 _ s₁.heap _
      rw [e0]
      exact ⟨by rw [eq2], N0, rfl⟩
  · have pre3 : ∀ t, Steps p.tables e below (s₁.setTop (mkF m 7 #[.val (.ref a1), .val (.int p2), .val (.int p3), .val (.int p4)] [(.int p4), (.int p2)])) t → Steps p.tables e below (s₁.setTop (entryFrame m #[(.ref a1), (.int p2), (.int p3), (.int p4)] 4)) t := by
      intro t k
      refine pre1 t ?_
      show Steps p.tables e below (s₁.setTop (mkF m 2 #[.val (.ref a1), .val (.int p2), .val (.int p3), .val (.int p4)] [(.int p3), (.int p2)])) _
      refine XS.icmpNo X0.here hx rfl (hb hby d2_2) rfl (flt hc2).1 ?_
      show Steps p.tables e below (s₁.setTop (mkF m 5 #[.val (.ref a1), .val (.int p2), .val (.int p3), .val (.int p4)] [])) _
      refine XS.iloadN X0.here hx rfl (hb hby d2_5) rfl ?_
      show Steps p.tables e below (s₁.setTop (mkF m 6 #[.val (.ref a1), .val (.int p2), .val (.int p3), .val (.int p4)] [(.int p2)])) _
      refine XS.iloadN X0.here hx rfl (hb hby d2_6) rfl ?_
      exact k
    by_cases hc7 : p2 < p4
    · obtain ⟨_, _, ⟨T5, L5, k5, n5⟩, -, X5, ⟨Lc5, hQ5, l5, y5, z5⟩, st5⟩ := Jvm.LawKit.callS X0 hx (y := (⟨"com/example/hoardr/hoardr/http/FramingIsDigitsPinLaw", "digit", "(B)Z"⟩ : MethodName)) hown (mvT hZ (hw _ (List.mem_of_getElem? (i := 10) rfl))) (mvT hZ (hw _ (List.mem_of_getElem? (i := 11) rfl))) (mvT hZ (hw _ (List.mem_of_getElem? (i := 8) rfl))) (mvT hZ (hw _ (List.mem_of_getElem? (i := 12) rfl))) (by decide) (backOf (W := 0) (rm3 l Z a0 hw [] (c_a1 (p2).toNatClampNeg) h0 n0 Z0 ) hZ (hw _ (List.mem_of_getElem? (i := 12) rfl)) (hw _ (List.mem_of_getElem? (i := 8) rfl)) (by decide) (by decide)) (g := (mkF m 13 #[.val (.ref a1), .val (.int p2), .val (.int p3), .val (.int p4)] [(.int (c_a1 (p2).toNatClampNeg))])) rfl (by rw [hml]; rfl) (argsL := [(.int (c_a1 (p2).toNatClampNeg))]) (rest := []) (lenOf pd_0 rfl) rfl (by show 2 * 0 + _ ≤ _; exact Nat.le_of_eq rfl) (hb hby d2_13) (fun _ _ => ⟨rfl, e0, (by decide : 0 + 0 ≤ _), (by decide : 0 + 0 ≤ _)⟩)
      dsimp only [Pt.U, Pt.locs, Pt.cells, Pt.slots] at X5 l5 y5 z5 st5 hQ5
      subst l5 y5 z5
      obtain ⟨rfl, N5q, e5⟩ := hQ5
      have N5 := Fr.app N0 N5q
      have pre4 : ∀ t, Steps p.tables e below (T5.setTop (mkF m 16 #[.val (.ref a1), .val (.int p2), .val (.int p3), .val (.int p4)] [(.int (f3 (c_a1 (p2).toNatClampNeg)))])) t → Steps p.tables e below (s₁.setTop (entryFrame m #[(.ref a1), (.int p2), (.int p3), (.int p4)] 4)) t := by
        intro t k
        refine pre3 t ?_
        show Steps p.tables e below (s₁.setTop (mkF m 7 #[.val (.ref a1), .val (.int p2), .val (.int p3), .val (.int p4)] [(.int p4), (.int p2)])) _
        refine XS.icmpNo X0.here hx rfl (hb hby d2_7) rfl (tlt hc7).2.1 ?_
        show Steps p.tables e below (s₁.setTop (mkF m 10 #[.val (.ref a1), .val (.int p2), .val (.int p3), .val (.int p4)] [])) _
        refine XS.aloadN X0.here hx rfl (hb hby d2_10) rfl rfl ?_
        show Steps p.tables e below (s₁.setTop (mkF m 11 #[.val (.ref a1), .val (.int p2), .val (.int p3), .val (.int p4)] [(.ref a1)])) _
        refine XS.iloadN X0.here hx rfl (hb hby d2_11) rfl ?_
        show Steps p.tables e below (s₁.setTop (mkF m 12 #[.val (.ref a1), .val (.int p2), .val (.int p3), .val (.int p4)] [(.int p2), (.ref a1)])) _
        refine ldB X0 hx hZ e0 V_a1 (j := p2) (hq1 hc2 hc7) (g := (mkF m 12 #[.val (.ref a1), .val (.int p2), .val (.int p3), .val (.int p4)] [(.int p2), (.ref a1)])) rfl rfl (hb hby d2_12) ?_
        show Steps p.tables e below (s₁.setTop (mkF m 13 #[.val (.ref a1), .val (.int p2), .val (.int p3), .val (.int p4)] [(.int (c_a1 (p2).toNatClampNeg))])) _
        refine st5 _ ?_
        exact k
      by_cases hc16 : (f3 (c_a1 (p2).toNatClampNeg)) = (0 : Int32)
      · have eq5 : (f2 p2 p3 p4 z_a1 c_a1) = (0 : Int32) := by unfold f2; simp only [if_neg hc2, if_pos hc7, if_pos hc16]
        obtain ⟨fs, hr, hrun, hended, hW, hsame⟩ := X5.leave (v := some (.int (0 : Int32))) (fun h => by rw [Bd.returns] at h; cases h)
        refine ⟨_, _, pre4 _ ?_, hrun, hended, _, _, rfl, ?_, ⟨_, rfl⟩, hW, hsame.mono (by decide) (by decide)⟩
        · show Steps p.tables e below (T5.setTop (mkF m 16 #[.val (.ref a1), .val (.int p2), .val (.int p3), .val (.int p4)] [(.int (f3 (c_a1 (p2).toNatClampNeg)))])) _
          refine XS.ifYes X5.here hx rfl (pc0 := 16) (pc' := 23) rfl (hb hby d2_16) rfl ((if0 _ _).trans (teq hc16).1) (by decide) (by decide) ?_
          show Steps p.tables e below (T5.setTop (mkF m 23 #[.val (.ref a1), .val (.int p2), .val (.int p3), .val (.int p4)] [])) _
          refine XS.iconst X5.here hx rfl (hb hby d2_23) ?_
          show Steps p.tables e below (T5.setTop (mkF m 24 #[.val (.ref a1), .val (.int p2), .val (.int p3), .val (.int p4)] [(.int (0 : Int32))])) _
          exact retN X5 hx (t := .boolean) Bd.returns (by simp) (hb hby d2_24) hr
        · show Q2 Z a1 p2 p3 p4 z_a1 c_a1 h0 n0 _ T5.heap _
          rw [e5]
          exact ⟨by rw [eq5], N5, rfl⟩
      · have eq6 : (f2 p2 p3 p4 z_a1 c_a1) = (1 : Int32) := by unfold f2; simp only [if_neg hc2, if_pos hc7, if_neg hc16]
        obtain ⟨fs, hr, hrun, hended, hW, hsame⟩ := X5.leave (v := some (.int (1 : Int32))) (fun h => by rw [Bd.returns] at h; cases h)
        refine ⟨_, _, pre4 _ ?_, hrun, hended, _, _, rfl, ?_, ⟨_, rfl⟩, hW, hsame.mono (by decide) (by decide)⟩
        · show Steps p.tables e below (T5.setTop (mkF m 16 #[.val (.ref a1), .val (.int p2), .val (.int p3), .val (.int p4)] [(.int (f3 (c_a1 (p2).toNatClampNeg)))])) _
          refine XS.ifNo X5.here hx rfl (hb hby d2_16) rfl ((if0 _ _).trans (feq hc16).1) ?_
          show Steps p.tables e below (T5.setTop (mkF m 19 #[.val (.ref a1), .val (.int p2), .val (.int p3), .val (.int p4)] [])) _
          refine XS.iconst X5.here hx rfl (hb hby d2_19) ?_
          show Steps p.tables e below (T5.setTop (mkF m 20 #[.val (.ref a1), .val (.int p2), .val (.int p3), .val (.int p4)] [(.int (1 : Int32))])) _
          refine XS.goto X5.here hx rfl (pc0 := 20) (pc' := 24) rfl (hb hby d2_20) (by decide) (by decide) ?_
          show Steps p.tables e below (T5.setTop (mkF m 24 #[.val (.ref a1), .val (.int p2), .val (.int p3), .val (.int p4)] [(.int (1 : Int32))])) _
          exact retN X5 hx (t := .boolean) Bd.returns (by simp) (hb hby d2_24) hr
        · show Q2 Z a1 p2 p3 p4 z_a1 c_a1 h0 n0 _ T5.heap _
          rw [e5]
          exact ⟨by rw [eq6], N5, rfl⟩
    · have eq7 : (f2 p2 p3 p4 z_a1 c_a1) = (1 : Int32) := by unfold f2; simp only [if_neg hc2, if_neg hc7]
      obtain ⟨fs, hr, hrun, hended, hW, hsame⟩ := X0.leave (v := some (.int (1 : Int32))) (fun h => by rw [Bd.returns] at h; cases h)
      refine ⟨_, _, pre3 _ ?_, hrun, hended, _, _, rfl, ?_, ⟨_, rfl⟩, hW, hsame.mono (by decide) (by decide)⟩
      · show Steps p.tables e below (s₁.setTop (mkF m 7 #[.val (.ref a1), .val (.int p2), .val (.int p3), .val (.int p4)] [(.int p4), (.int p2)])) _
        refine XS.icmpYes X0.here hx rfl (pc0 := 7) (pc' := 19) rfl (hb hby d2_7) rfl (flt hc7).2.1 (by decide) (by decide) ?_
        show Steps p.tables e below (s₁.setTop (mkF m 19 #[.val (.ref a1), .val (.int p2), .val (.int p3), .val (.int p4)] [])) _
        refine XS.iconst X0.here hx rfl (hb hby d2_19) ?_
        show Steps p.tables e below (s₁.setTop (mkF m 20 #[.val (.ref a1), .val (.int p2), .val (.int p3), .val (.int p4)] [(.int (1 : Int32))])) _
        refine XS.goto X0.here hx rfl (pc0 := 20) (pc' := 24) rfl (hb hby d2_20) (by decide) (by decide) ?_
        show Steps p.tables e below (s₁.setTop (mkF m 24 #[.val (.ref a1), .val (.int p2), .val (.int p3), .val (.int p4)] [(.int (1 : Int32))])) _
        exact retN X0 hx (t := .boolean) Bd.returns (by simp) (hb hby d2_24) hr
      · show Q2 Z a1 p2 p3 p4 z_a1 c_a1 h0 n0 _ s₁.heap _
        rw [e0]
        exact ⟨by rw [eq7], N0, rfl⟩
theorem pn_1 : plainName "com/example/hoardr/hoardr/http/Framing" = true := by first | (simp [plainName, overriddenIn]; done) | decide +kernel
theorem d1_0 : decode prog_49_method_4_code 0 = .ok (.iload_n 1, 1) := by decide +kernel
theorem d1_1 : decode prog_49_method_4_code 1 = .ok (.iload_n 2, 1) := by decide +kernel
theorem d1_2 : decode prog_49_method_4_code 2 = .ok (.if_icmp .lt 5, 3) := by decide +kernel
theorem d1_5 : decode prog_49_method_4_code 5 = .ok (.iconst 0, 1) := by decide +kernel
theorem d1_6 : decode prog_49_method_4_code 6 = .ok (.ireturn, 1) := by decide +kernel
theorem d1_7 : decode prog_49_method_4_code 7 = .ok (.iload_n 1, 1) := by decide +kernel
theorem d1_8 : decode prog_49_method_4_code 8 = .ok (.istore_n 3, 1) := by decide +kernel
theorem d1_9 : decode prog_49_method_4_code 9 = .ok (.iload_n 3, 1) := by decide +kernel
theorem d1_10 : decode prog_49_method_4_code 10 = .ok (.iload_n 2, 1) := by decide +kernel
theorem d1_11 : decode prog_49_method_4_code 11 = .ok (.if_icmp .ge 27, 3) := by decide +kernel
theorem d1_14 : decode prog_49_method_4_code 14 = .ok (.aload_n 0, 1) := by decide +kernel
theorem d1_15 : decode prog_49_method_4_code 15 = .ok (.iload_n 3, 1) := by decide +kernel
theorem d1_16 : decode prog_49_method_4_code 16 = .ok (.baload, 1) := by decide +kernel
theorem d1_17 : decode prog_49_method_4_code 17 = .ok (.bipush 48, 2) := by decide +kernel
theorem d1_19 : decode prog_49_method_4_code 19 = .ok (.if_icmp .lt 11, 3) := by decide +kernel
theorem d1_22 : decode prog_49_method_4_code 22 = .ok (.aload_n 0, 1) := by decide +kernel
theorem d1_23 : decode prog_49_method_4_code 23 = .ok (.iload_n 3, 1) := by decide +kernel
theorem d1_24 : decode prog_49_method_4_code 24 = .ok (.baload, 1) := by decide +kernel
theorem d1_25 : decode prog_49_method_4_code 25 = .ok (.bipush 57, 2) := by decide +kernel
theorem d1_27 : decode prog_49_method_4_code 27 = .ok (.if_icmp .le 5, 3) := by decide +kernel
theorem d1_30 : decode prog_49_method_4_code 30 = .ok (.iconst 0, 1) := by decide +kernel
theorem d1_31 : decode prog_49_method_4_code 31 = .ok (.ireturn, 1) := by decide +kernel
theorem d1_32 : decode prog_49_method_4_code 32 = .ok (.iinc 3 1, 3) := by decide +kernel
theorem d1_35 : decode prog_49_method_4_code 35 = .ok (.goto (-26), 3) := by decide +kernel
theorem d1_38 : decode prog_49_method_4_code 38 = .ok (.iconst 1, 1) := by decide +kernel
theorem d1_39 : decode prog_49_method_4_code 39 = .ok (.ireturn, 1) := by decide +kernel
theorem ef_1 (m : MethodId) (x0 : Addr) (x1 : Int32) (x2 : Int32) : entryFrame m #[(.ref x0), (.int x1), (.int x2)] 4 = mkF m 0 #[.val (.ref x0), .val (.int x1), .val (.int x2), .unset] [] := by first | (simp [entryFrame, mkF, argsToLocals, Value.category]; done) | rfl
def g1_9 (p2 : Int32) (p3 : Int32) (z_a1 : Int32) (c_a1 : Nat → Int32) : Nat → Int32 → Int32
  | 0, _ => 0
  | k + 1, i3 => (if i3 < p3 then (if (c_a1 (i3).toNatClampNeg) < (48 : Int32) then (0 : Int32) else (if (57 : Int32) < (c_a1 (i3).toNatClampNeg) then (0 : Int32) else (g1_9 p2 p3 z_a1 c_a1 k (i3 + (1 : Int32))))) else (1 : Int32))
def f1 (p2 : Int32) (p3 : Int32) (z_a1 : Int32) (c_a1 : Nat → Int32) : Int32 := (if p2 < p3 then (g1_9 p2 p3 z_a1 c_a1 (5) p2) else (0 : Int32))
def Q1 (Z : State) (a1 : Addr) (p2 : Int32) (p3 : Int32) (z_a1 : Int32) (c_a1 : Nat → Int32) (h0 : Heap) (n0 : Nat) (v : Option Value) (h : Heap) (L : List Loc) : Prop := v = some (.int (f1 p2 p3 z_a1 c_a1)) ∧ Fr n0 L ∧ h = h0
set_option maxRecDepth 65536 in
set_option maxHeartbeats 40000000 in
theorem rm1 (l : Launch) (Z : State) (a0 : Array Value) (hw : ∀ d ∈ tables_1, d.before a0 Z = true) (ws : List Jvm.Cond) (a1 : Addr) (p2 : Int32) (p3 : Int32) (z_a1 : Int32) (c_a1 : Nat → Int32) (h0 : Heap) (n0 : Nat) (Z0 : n0 ≤ h0.size) (V_a1 : IAr Z h0 a1 .byte z_a1 c_a1) (hq1 : 0 ≤ p2.toInt ∧ p3.toInt ≤ z_a1.toInt ∧ p3.toInt ≤ 4) :
    MetFree l (⟨"com/example/hoardr/hoardr/http/Framing", "isDigits", "([BII)Z"⟩ : MethodName) (head1 (Jvm.Cond.code (⟨"com/example/hoardr/hoardr/http/Framing", "isDigits", "([BII)Z"⟩ : MethodName) prog_49_method_4_code 4 (some .boolean) :: ws) ({ frames := 0, cells := 0, slots := 0, locals := 0 } : Room)) (fun a U => a = #[(.ref a1), (.int p2), (.int p3)] ∧ Z.Warmed39 U.vm ∧ U.heap = h0) (fun _ _ _ _ _ => True) (fun _ U o U' => ∃ v L, o = .returned v ∧ Q1 Z a1 p2 p3 z_a1 c_a1 h0 n0 v U'.heap L ∧ FrameEnd U o U' L ({ frames := 0, cells := 0, slots := 0, locals := 0 } : Room).cells ({ frames := 0, cells := 0, slots := 0, locals := 0 } : Room).slots) := by
  refine MetFree.of_bodySF (plainFor_of_name pn_1) hisR ?_
  intro p e s m args below meth c s₁ Bd hml0 hP hK
  obtain ⟨rfl, hZ, hh⟩ := hP
  have hx := Bd.exec
  have hby := Bd.bytes
  have hml : c.maxLocals = 4 := hml0
  have hown : s.vm.findClass "com/example/hoardr/hoardr/http/Framing" = some m.cls := findClass_of_methodNamed Bd.named
  have hnm := (name_of_methodNamed Bd.named Bd.method).1
  have X0 : Stand p l e ({ frames := 0, cells := 0, slots := 0, locals := 0 } : Room) s m #[(.ref a1), (.int p2), (.int p3)] below meth c s₁ [] 0 0 := Stand.of_body Bd
  have e0 : s₁.heap = h0 := by rw [← hh, Bd.state]; rfl
  have N0 := Fr.nil n0
  have pre0 : ∀ t, Steps p.tables e below (s₁.setTop (mkF m 0 #[.val (.ref a1), .val (.int p2), .val (.int p3), .unset] [])) t → Steps p.tables e below (s₁.setTop (entryFrame m #[(.ref a1), (.int p2), (.int p3)] 4)) t := fun t k => castTop (ef_1 m a1 p2 p3) k
  have pre1 : ∀ t, Steps p.tables e below (s₁.setTop (mkF m 2 #[.val (.ref a1), .val (.int p2), .val (.int p3), .unset] [(.int p3), (.int p2)])) t → Steps p.tables e below (s₁.setTop (entryFrame m #[(.ref a1), (.int p2), (.int p3)] 4)) t := by
    intro t k
    refine pre0 t ?_
    show Steps p.tables e below (s₁.setTop (mkF m 0 #[.val (.ref a1), .val (.int p2), .val (.int p3), .unset] [])) _
    refine XS.iloadN X0.here hx rfl (hb hby d1_0) rfl ?_
    show Steps p.tables e below (s₁.setTop (mkF m 1 #[.val (.ref a1), .val (.int p2), .val (.int p3), .unset] [(.int p2)])) _
    refine XS.iloadN X0.here hx rfl (hb hby d1_1) rfl ?_
    exact k
  by_cases hc2 : p2 < p3
  · have pre2 : ∀ t, Steps p.tables e below (s₁.setTop (mkF m 9 #[.val (.ref a1), .val (.int p2), .val (.int p3), .val (.int p2)] [])) t → Steps p.tables e below (s₁.setTop (entryFrame m #[(.ref a1), (.int p2), (.int p3)] 4)) t := by
      intro t k
      refine pre1 t ?_
      show Steps p.tables e below (s₁.setTop (mkF m 2 #[.val (.ref a1), .val (.int p2), .val (.int p3), .unset] [(.int p3), (.int p2)])) _
      refine XS.icmpYes X0.here hx rfl (pc0 := 2) (pc' := 7) rfl (hb hby d1_2) rfl (tlt hc2).1 (by decide) (by decide) ?_
      show Steps p.tables e below (s₁.setTop (mkF m 7 #[.val (.ref a1), .val (.int p2), .val (.int p3), .unset] [])) _
      refine XS.iloadN X0.here hx rfl (hb hby d1_7) rfl ?_
      show Steps p.tables e below (s₁.setTop (mkF m 8 #[.val (.ref a1), .val (.int p2), .val (.int p3), .unset] [(.int p2)])) _
      refine XS.istoreN X0.here hx rfl (hb hby d1_8) rfl (l' := #[.val (.ref a1), .val (.int p2), .val (.int p3), .val (.int p2)]) rfl ?_
      exact k
    have loop9 : ∀ (k : Nat) (i3 : Int32) (T4 : State) (LT4 : List Loc), 0 ≤ i3.toInt ∧ i3.toInt ≤ p3.toInt ∧ p3.toInt ≤ z_a1.toInt ∧ p3.toInt - i3.toInt < (k : Int) → Stand p l e ({ frames := 0, cells := 0, slots := 0, locals := 0 } : Room) s m #[(.ref a1), (.int p2), (.int p3)] below meth c T4 LT4 0 0 → T4.heap = h0 → Fr n0 LT4 → (g1_9 p2 p3 z_a1 c_a1 k i3) = (f1 p2 p3 z_a1 c_a1) → (∀ t, Steps p.tables e below (T4.setTop (mkF m 9 #[.val (.ref a1), .val (.int p2), .val (.int p3), .val (.int i3)] [])) t → Steps p.tables e below (s₁.setTop (entryFrame m #[(.ref a1), (.int p2), (.int p3)] 4)) t) → ∃ s₂ o, Steps p.tables e below (s₁.setTop (entryFrame m #[(.ref a1), (.int p2), (.int p3)] 4)) s₂ ∧ s₂.status = .running ∧ Ended s₂ below o ∧ ∃ v L, o = .returned v ∧ Q1 Z a1 p2 p3 z_a1 c_a1 h0 n0 v s₂.heap L ∧ FrameEnd s o s₂ L ({ frames := 0, cells := 0, slots := 0, locals := 0 } : Room).cells ({ frames := 0, cells := 0, slots := 0, locals := 0 } : Room).slots := by
      intro k
      induction k with
      | zero => intro i3 T4 LT4 hI X4 e4 N4 hg preL; exact absurd hI (by omega)
      | succ k ih =>
        intro i3 T4 LT4 hI X4 e4 N4 hg preL
        have pre3 : ∀ t, Steps p.tables e below (T4.setTop (mkF m 11 #[.val (.ref a1), .val (.int p2), .val (.int p3), .val (.int i3)] [(.int p3), (.int i3)])) t → Steps p.tables e below (s₁.setTop (entryFrame m #[(.ref a1), (.int p2), (.int p3)] 4)) t := by
          intro t k
          refine preL t ?_
          show Steps p.tables e below (T4.setTop (mkF m 9 #[.val (.ref a1), .val (.int p2), .val (.int p3), .val (.int i3)] [])) _
          refine XS.iloadN X4.here hx rfl (hb hby d1_9) rfl ?_
          show Steps p.tables e below (T4.setTop (mkF m 10 #[.val (.ref a1), .val (.int p2), .val (.int p3), .val (.int i3)] [(.int i3)])) _
          refine XS.iloadN X4.here hx rfl (hb hby d1_10) rfl ?_
          exact k
        by_cases hc11 : i3 < p3
        · have pre4 : ∀ t, Steps p.tables e below (T4.setTop (mkF m 19 #[.val (.ref a1), .val (.int p2), .val (.int p3), .val (.int i3)] [(.int (48 : Int32)), (.int (c_a1 (i3).toNatClampNeg))])) t → Steps p.tables e below (s₁.setTop (entryFrame m #[(.ref a1), (.int p2), (.int p3)] 4)) t := by
            intro t k
            refine pre3 t ?_
            show Steps p.tables e below (T4.setTop (mkF m 11 #[.val (.ref a1), .val (.int p2), .val (.int p3), .val (.int i3)] [(.int p3), (.int i3)])) _
            refine XS.icmpNo X4.here hx rfl (hb hby d1_11) rfl (tlt hc11).2.1 ?_
            show Steps p.tables e below (T4.setTop (mkF m 14 #[.val (.ref a1), .val (.int p2), .val (.int p3), .val (.int i3)] [])) _
            refine XS.aloadN X4.here hx rfl (hb hby d1_14) rfl rfl ?_
            show Steps p.tables e below (T4.setTop (mkF m 15 #[.val (.ref a1), .val (.int p2), .val (.int p3), .val (.int i3)] [(.ref a1)])) _
            refine XS.iloadN X4.here hx rfl (hb hby d1_15) rfl ?_
            show Steps p.tables e below (T4.setTop (mkF m 16 #[.val (.ref a1), .val (.int p2), .val (.int p3), .val (.int i3)] [(.int i3), (.ref a1)])) _
            refine ldB X4 hx hZ e4 V_a1 (j := i3) (own_in hI hc11) (g := (mkF m 16 #[.val (.ref a1), .val (.int p2), .val (.int p3), .val (.int i3)] [(.int i3), (.ref a1)])) rfl rfl (hb hby d1_16) ?_
            show Steps p.tables e below (T4.setTop (mkF m 17 #[.val (.ref a1), .val (.int p2), .val (.int p3), .val (.int i3)] [(.int (c_a1 (i3).toNatClampNeg))])) _
            refine XS.bipush X4.here hx rfl (hb hby d1_17) ?_
            exact k
          by_cases hc19 : (c_a1 (i3).toNatClampNeg) < (48 : Int32)
          · have eq5 : (f1 p2 p3 z_a1 c_a1) = (0 : Int32) := by rw [← hg]; simp only [g1_9, if_pos hc11, if_pos hc19]
            obtain ⟨fs, hr, hrun, hended, hW, hsame⟩ := X4.leave (v := some (.int (0 : Int32))) (fun h => by rw [Bd.returns] at h; cases h)
            refine ⟨_, _, pre4 _ ?_, hrun, hended, _, _, rfl, ?_, ⟨_, rfl⟩, hW, hsame.mono (by decide) (by decide)⟩
            · show Steps p.tables e below (T4.setTop (mkF m 19 #[.val (.ref a1), .val (.int p2), .val (.int p3), .val (.int i3)] [(.int (48 : Int32)), (.int (c_a1 (i3).toNatClampNeg))])) _
              refine XS.icmpYes X4.here hx rfl (pc0 := 19) (pc' := 30) rfl (hb hby d1_19) rfl (tlt hc19).1 (by decide) (by decide) ?_
              show Steps p.tables e below (T4.setTop (mkF m 30 #[.val (.ref a1), .val (.int p2), .val (.int p3), .val (.int i3)] [])) _
              refine XS.iconst X4.here hx rfl (hb hby d1_30) ?_
              show Steps p.tables e below (T4.setTop (mkF m 31 #[.val (.ref a1), .val (.int p2), .val (.int p3), .val (.int i3)] [(.int (0 : Int32))])) _
              exact retN X4 hx (t := .boolean) Bd.returns (by simp) (hb hby d1_31) hr
            · show Q1 Z a1 p2 p3 z_a1 c_a1 h0 n0 _ T4.heap _
              rw [e4]
              exact ⟨by rw [eq5], N4, rfl⟩
          · have pre6 : ∀ t, Steps p.tables e below (T4.setTop (mkF m 27 #[.val (.ref a1), .val (.int p2), .val (.int p3), .val (.int i3)] [(.int (57 : Int32)), (.int (c_a1 (i3).toNatClampNeg))])) t → Steps p.tables e below (s₁.setTop (entryFrame m #[(.ref a1), (.int p2), (.int p3)] 4)) t := by
              intro t k
              refine pre4 t ?_
              show Steps p.tables e below (T4.setTop (mkF m 19 #[.val (.ref a1), .val (.int p2), .val (.int p3), .val (.int i3)] [(.int (48 : Int32)), (.int (c_a1 (i3).toNatClampNeg))])) _
              refine XS.icmpNo X4.here hx rfl (hb hby d1_19) rfl (flt hc19).1 ?_
              show Steps p.tables e below (T4.setTop (mkF m 22 #[.val (.ref a1), .val (.int p2), .val (.int p3), .val (.int i3)] [])) _
              refine XS.aloadN X4.here hx rfl (hb hby d1_22) rfl rfl ?_
              show Steps p.tables e below (T4.setTop (mkF m 23 #[.val (.ref a1), .val (.int p2), .val (.int p3), .val (.int i3)] [(.ref a1)])) _
              refine XS.iloadN X4.here hx rfl (hb hby d1_23) rfl ?_
              show Steps p.tables e below (T4.setTop (mkF m 24 #[.val (.ref a1), .val (.int p2), .val (.int p3), .val (.int i3)] [(.int i3), (.ref a1)])) _
              refine ldB X4 hx hZ e4 V_a1 (j := i3) (own_in hI hc11) (g := (mkF m 24 #[.val (.ref a1), .val (.int p2), .val (.int p3), .val (.int i3)] [(.int i3), (.ref a1)])) rfl rfl (hb hby d1_24) ?_
              show Steps p.tables e below (T4.setTop (mkF m 25 #[.val (.ref a1), .val (.int p2), .val (.int p3), .val (.int i3)] [(.int (c_a1 (i3).toNatClampNeg))])) _
              refine XS.bipush X4.here hx rfl (hb hby d1_25) ?_
              exact k
            by_cases hc27 : (57 : Int32) < (c_a1 (i3).toNatClampNeg)
            · have eq7 : (f1 p2 p3 z_a1 c_a1) = (0 : Int32) := by rw [← hg]; simp only [g1_9, if_pos hc11, if_neg hc19, if_pos hc27]
              obtain ⟨fs, hr, hrun, hended, hW, hsame⟩ := X4.leave (v := some (.int (0 : Int32))) (fun h => by rw [Bd.returns] at h; cases h)
              refine ⟨_, _, pre6 _ ?_, hrun, hended, _, _, rfl, ?_, ⟨_, rfl⟩, hW, hsame.mono (by decide) (by decide)⟩
              · show Steps p.tables e below (T4.setTop (mkF m 27 #[.val (.ref a1), .val (.int p2), .val (.int p3), .val (.int i3)] [(.int (57 : Int32)), (.int (c_a1 (i3).toNatClampNeg))])) _
                refine XS.icmpNo X4.here hx rfl (hb hby d1_27) rfl (tlt hc27).2.2.2 ?_
                show Steps p.tables e below (T4.setTop (mkF m 30 #[.val (.ref a1), .val (.int p2), .val (.int p3), .val (.int i3)] [])) _
                refine XS.iconst X4.here hx rfl (hb hby d1_30) ?_
                show Steps p.tables e below (T4.setTop (mkF m 31 #[.val (.ref a1), .val (.int p2), .val (.int p3), .val (.int i3)] [(.int (0 : Int32))])) _
                exact retN X4 hx (t := .boolean) Bd.returns (by simp) (hb hby d1_31) hr
              · show Q1 Z a1 p2 p3 z_a1 c_a1 h0 n0 _ T4.heap _
                rw [e4]
                exact ⟨by rw [eq7], N4, rfl⟩
            · have eq8 : (f1 p2 p3 z_a1 c_a1) = (g1_9 p2 p3 z_a1 c_a1 k (i3 + (1 : Int32))) := by rw [← hg]; simp only [g1_9, if_pos hc11, if_neg hc19, if_neg hc27]
              have pre9 : ∀ t, Steps p.tables e below (T4.setTop (mkF m 9 #[.val (.ref a1), .val (.int p2), .val (.int p3), .val (.int (i3 + (1 : Int32)))] [])) t → Steps p.tables e below (s₁.setTop (entryFrame m #[(.ref a1), (.int p2), (.int p3)] 4)) t := by
                intro t k
                refine pre6 t ?_
                show Steps p.tables e below (T4.setTop (mkF m 27 #[.val (.ref a1), .val (.int p2), .val (.int p3), .val (.int i3)] [(.int (57 : Int32)), (.int (c_a1 (i3).toNatClampNeg))])) _
                refine XS.icmpYes X4.here hx rfl (pc0 := 27) (pc' := 32) rfl (hb hby d1_27) rfl (flt hc27).2.2.2 (by decide) (by decide) ?_
                show Steps p.tables e below (T4.setTop (mkF m 32 #[.val (.ref a1), .val (.int p2), .val (.int p3), .val (.int i3)] [])) _
                refine XS.iinc X4.here hx rfl (hb hby d1_32) rfl (l' := #[.val (.ref a1), .val (.int p2), .val (.int p3), .val (.int (i3 + (1 : Int32)))]) rfl ?_
                show Steps p.tables e below (T4.setTop (mkF m 35 #[.val (.ref a1), .val (.int p2), .val (.int p3), .val (.int (i3 + (1 : Int32)))] [])) _
                refine XS.goto X4.here hx rfl (pc0 := 35) (pc' := 9) rfl (hb hby d1_35) (by decide) (by decide) ?_
                exact k
              exact ih (i3 + (1 : Int32)) T4 _  (own_step hI hc11) X4 e4 N4  (eq8).symm pre9
        · have eq10 : (f1 p2 p3 z_a1 c_a1) = (1 : Int32) := by rw [← hg]; simp only [g1_9, if_neg hc11]
          obtain ⟨fs, hr, hrun, hended, hW, hsame⟩ := X4.leave (v := some (.int (1 : Int32))) (fun h => by rw [Bd.returns] at h; cases h)
          refine ⟨_, _, pre3 _ ?_, hrun, hended, _, _, rfl, ?_, ⟨_, rfl⟩, hW, hsame.mono (by decide) (by decide)⟩
          · show Steps p.tables e below (T4.setTop (mkF m 11 #[.val (.ref a1), .val (.int p2), .val (.int p3), .val (.int i3)] [(.int p3), (.int i3)])) _
            refine XS.icmpYes X4.here hx rfl (pc0 := 11) (pc' := 38) rfl (hb hby d1_11) rfl (flt hc11).2.1 (by decide) (by decide) ?_
            show Steps p.tables e below (T4.setTop (mkF m 38 #[.val (.ref a1), .val (.int p2), .val (.int p3), .val (.int i3)] [])) _
            refine XS.iconst X4.here hx rfl (hb hby d1_38) ?_
            show Steps p.tables e below (T4.setTop (mkF m 39 #[.val (.ref a1), .val (.int p2), .val (.int p3), .val (.int i3)] [(.int (1 : Int32))])) _
            exact retN X4 hx (t := .boolean) Bd.returns (by simp) (hb hby d1_39) hr
          · show Q1 Z a1 p2 p3 z_a1 c_a1 h0 n0 _ T4.heap _
            rw [e4]
            exact ⟨by rw [eq10], N4, rfl⟩
    exact loop9 5 p2 s₁ _  (own_init hq1 hc2) X0 e0 N0 (by unfold f1; simp only [if_pos hc2]) pre2
  · have eq11 : (f1 p2 p3 z_a1 c_a1) = (0 : Int32) := by unfold f1; simp only [if_neg hc2]
    obtain ⟨fs, hr, hrun, hended, hW, hsame⟩ := X0.leave (v := some (.int (0 : Int32))) (fun h => by rw [Bd.returns] at h; cases h)
    refine ⟨_, _, pre1 _ ?_, hrun, hended, _, _, rfl, ?_, ⟨_, rfl⟩, hW, hsame.mono (by decide) (by decide)⟩
    · show Steps p.tables e below (s₁.setTop (mkF m 2 #[.val (.ref a1), .val (.int p2), .val (.int p3), .unset] [(.int p3), (.int p2)])) _
      refine XS.icmpNo X0.here hx rfl (hb hby d1_2) rfl (flt hc2).1 ?_
      show Steps p.tables e below (s₁.setTop (mkF m 5 #[.val (.ref a1), .val (.int p2), .val (.int p3), .unset] [])) _
      refine XS.iconst X0.here hx rfl (hb hby d1_5) ?_
      show Steps p.tables e below (s₁.setTop (mkF m 6 #[.val (.ref a1), .val (.int p2), .val (.int p3), .unset] [(.int (0 : Int32))])) _
      exact retN X0 hx (t := .boolean) Bd.returns (by simp) (hb hby d1_6) hr
    · show Q1 Z a1 p2 p3 z_a1 c_a1 h0 n0 _ s₁.heap _
      rw [e0]
      exact ⟨by rw [eq11], N0, rfl⟩
theorem pd_1 : parseMethodDescriptor "([BIII)Z" = some ⟨[(.array .byte), .int, .int, .int], some .boolean⟩ := by decide +kernel
theorem pd_2 : parseMethodDescriptor "([BII)Z" = some ⟨[(.array .byte), .int, .int], some .boolean⟩ := by decide +kernel
theorem ef_0 (m : MethodId) (x0 : Int32) (x1 : Int32) (x2 : Int32) : entryFrame m #[(.int x0), (.int x1), (.int x2)] maxLocals = mkF m 0 #[.val (.int x0), .val (.int x1), .val (.int x2), .unset, .unset, .unset, .unset, .unset] [] := by first | (simp [entryFrame, mkF, argsToLocals, Value.category, maxLocals]; done) | rfl
def f0_v8 (p1 : Int32) (p2 : Int32) (p3 : Int32) : Nat → Int32 := (ownU (fun _ => 0) ((0 : Int32)).toNatClampNeg (nar .byte (p1.toInt8.toInt32)))
def f0_v16 (p1 : Int32) (p2 : Int32) (p3 : Int32) : Nat → Int32 := (ownU (f0_v8 p1 p2 p3) ((1 : Int32)).toNatClampNeg (nar .byte (((p1.toUInt32 >>> ((8 : Int32) &&& 31).toUInt32).toInt32).toInt8.toInt32)))
def f0_v24 (p1 : Int32) (p2 : Int32) (p3 : Int32) : Nat → Int32 := (ownU (f0_v16 p1 p2 p3) ((2 : Int32)).toNatClampNeg (nar .byte (((p1.toUInt32 >>> ((16 : Int32) &&& 31).toUInt32).toInt32).toInt8.toInt32)))
def f0_v32 (p1 : Int32) (p2 : Int32) (p3 : Int32) : Nat → Int32 := (ownU (f0_v24 p1 p2 p3) ((3 : Int32)).toNatClampNeg (nar .byte (((p1.toUInt32 >>> ((24 : Int32) &&& 31).toUInt32).toInt32).toInt8.toInt32)))
def f0_v38 (p1 : Int32) (p2 : Int32) (p3 : Int32) : Int32 := ((p2 &&& (2147483647 : Int32)) - ((p2 &&& (2147483647 : Int32)) / (5 : Int32)) * (5 : Int32))
def f0_v46 (p1 : Int32) (p2 : Int32) (p3 : Int32) : Int32 := ((p3 &&& (2147483647 : Int32)) - ((p3 &&& (2147483647 : Int32)) / (5 : Int32)) * (5 : Int32))
def f0_s0_109 (p1 : Int32) (p2 : Int32) (p3 : Int32) : Int32 := (if (f0_v38 p1 p2 p3) < (f0_v46 p1 p2 p3) then (if (f2 (0 : Int32) (f0_v38 p1 p2 p3) (f0_v46 p1 p2 p3) (4 : Int32) (f0_v32 p1 p2 p3)) = (0 : Int32) then (0 : Int32) else (if (f2 (1 : Int32) (f0_v38 p1 p2 p3) (f0_v46 p1 p2 p3) (4 : Int32) (f0_v32 p1 p2 p3)) = (0 : Int32) then (0 : Int32) else (if (f2 (2 : Int32) (f0_v38 p1 p2 p3) (f0_v46 p1 p2 p3) (4 : Int32) (f0_v32 p1 p2 p3)) = (0 : Int32) then (0 : Int32) else (if (f2 (3 : Int32) (f0_v38 p1 p2 p3) (f0_v46 p1 p2 p3) (4 : Int32) (f0_v32 p1 p2 p3)) = (0 : Int32) then (0 : Int32) else (1 : Int32))))) else (0 : Int32))
def f0 (p1 : Int32) (p2 : Int32) (p3 : Int32) : Int32 := (if (f0_s0_109 p1 p2 p3) = (f1 (f0_v38 p1 p2 p3) (f0_v46 p1 p2 p3) (4 : Int32) (f0_v32 p1 p2 p3)) then (1 : Int32) else (0 : Int32))
def Q0 (Z : State) (p1 : Int32) (p2 : Int32) (p3 : Int32) (h0 : Heap) (n0 : Nat) (v : Option Value) (h : Heap) (L : List Loc) : Prop := v = some (.int (f0 p1 p2 p3)) ∧ Fr n0 L ∧ True
set_option maxRecDepth 65536 in
set_option maxHeartbeats 40000000 in
theorem rm0 (l : Launch) (Z : State) (a0 : Array Value) (hw : ∀ d ∈ tables_1, d.before a0 Z = true) (ws : List Jvm.Cond) (p1 : Int32) (p2 : Int32) (p3 : Int32) (h0 : Heap) (n0 : Nat) (Z0 : n0 ≤ h0.size) :
    MetFree l x (head1 (Jvm.Cond.code x code maxLocals ret :: ws) room_1) (fun a U => a = #[(.int p1), (.int p2), (.int p3)] ∧ Z.Warmed39 U.vm ∧ U.heap = h0) (fun _ _ _ _ _ => True) (fun _ U o U' => ∃ v L, o = .returned v ∧ Q0 Z p1 p2 p3 h0 n0 v U'.heap L ∧ FrameEnd U o U' L room_1.cells room_1.slots) := by
  refine MetFree.of_bodySF (plainFor_of_name pn_0) hisR ?_
  intro p e s m args below meth c s₁ Bd hml0 hP hK
  obtain ⟨rfl, hZ, hh⟩ := hP
  have hx := Bd.exec
  have hby := Bd.bytes
  have hml : c.maxLocals = 8 := hml0
  have hown : s.vm.findClass "com/example/hoardr/hoardr/http/FramingIsDigitsPinLaw" = some m.cls := findClass_of_methodNamed Bd.named
  have hnm := (name_of_methodNamed Bd.named Bd.method).1
  have X0 : Stand p l e room_1 s m #[(.int p1), (.int p2), (.int p3)] below meth c s₁ [] 0 0 := Stand.of_body Bd
  have e0 : s₁.heap = h0 := by rw [← hh, Bd.state]; rfl
  have N0 := Fr.nil n0
  have pre0 : ∀ t, Steps p.tables e below (s₁.setTop (mkF m 0 #[.val (.int p1), .val (.int p2), .val (.int p3), .unset, .unset, .unset, .unset, .unset] [])) t → Steps p.tables e below (s₁.setTop (entryFrame m #[(.int p1), (.int p2), (.int p3)] maxLocals)) t := fun t k => castTop (ef_0 m p1 p2 p3) k
  obtain ⟨T4, h4, k4, X4, e4, E4, A4, st4⟩ := newP X0 hx hZ (hw _ (List.mem_of_getElem? (i := 0) rfl)) e0 (g := (mkF m 1 #[.val (.int p1), .val (.int p2), .val (.int p3), .unset, .unset, .unset, .unset, .unset] [(.int (4 : Int32))])) rfl (hb hby at_1) rfl (by decide) (cap := 4) (by decide) (by decide) (by decide) (by decide)
  obtain ⟨b4, g4⟩ : ∃ z, z = h0.size := ⟨_, rfl⟩
  rw [← g4] at A4 st4
  have g_b4 : n0 ≤ b4 := Nat.le_trans Z0 (Nat.le_of_eq g4.symm)
  have c5 : n0 ≤ h4.size := Nat.le_trans Z0 E4.1
  have c6 : IAr Z h4 b4 .byte (4 : Int32) (fun _ => 0) := IAr.new A4 (by decide) rfl
  obtain ⟨T7, h7, X7, e7, W7, V7, st7⟩ := sB X4 hx hZ e4 c6 (j := (0 : Int32)) ⟨by decide, by first | decide | assumption⟩ (g := (mkF m 8 #[.val (.int p1), .val (.int p2), .val (.int p3), .val (.ref b4), .unset, .unset, .unset, .unset] [(.int (p1.toInt8.toInt32)), (.int (0 : Int32)), (.ref b4)])) rfl rfl (hb hby at_8)
  have N7 := Fr.snoc X7 N0 g_b4
  have c8 : n0 ≤ h7.size := Nat.le_trans c5 (Keep.of_wr W7).1
  have c9 : IAr Z h7 b4 .byte (4 : Int32) (f0_v8 p1 p2 p3) := V7
  obtain ⟨T10, h10, X10, e10, W10, V10, st10⟩ := sB X7 hx hZ e7 c9 (j := (1 : Int32)) ⟨by decide, by first | decide | assumption⟩ (g := (mkF m 16 #[.val (.int p1), .val (.int p2), .val (.int p3), .val (.ref b4), .unset, .unset, .unset, .unset] [(.int (((p1.toUInt32 >>> ((8 : Int32) &&& 31).toUInt32).toInt32).toInt8.toInt32)), (.int (1 : Int32)), (.ref b4)])) rfl rfl (hb hby at_16)
  have N10 := Fr.snoc X10 N7 g_b4
  have c11 : n0 ≤ h10.size := Nat.le_trans c8 (Keep.of_wr W10).1
  have c12 : IAr Z h10 b4 .byte (4 : Int32) (f0_v16 p1 p2 p3) := V10
  obtain ⟨T13, h13, X13, e13, W13, V13, st13⟩ := sB X10 hx hZ e10 c12 (j := (2 : Int32)) ⟨by decide, by first | decide | assumption⟩ (g := (mkF m 24 #[.val (.int p1), .val (.int p2), .val (.int p3), .val (.ref b4), .unset, .unset, .unset, .unset] [(.int (((p1.toUInt32 >>> ((16 : Int32) &&& 31).toUInt32).toInt32).toInt8.toInt32)), (.int (2 : Int32)), (.ref b4)])) rfl rfl (hb hby at_24)
  have N13 := Fr.snoc X13 N10 g_b4
  have c14 : n0 ≤ h13.size := Nat.le_trans c11 (Keep.of_wr W13).1
  have c15 : IAr Z h13 b4 .byte (4 : Int32) (f0_v24 p1 p2 p3) := V13
  obtain ⟨T16, h16, X16, e16, W16, V16, st16⟩ := sB X13 hx hZ e13 c15 (j := (3 : Int32)) ⟨by decide, by first | decide | assumption⟩ (g := (mkF m 32 #[.val (.int p1), .val (.int p2), .val (.int p3), .val (.ref b4), .unset, .unset, .unset, .unset] [(.int (((p1.toUInt32 >>> ((24 : Int32) &&& 31).toUInt32).toInt32).toInt8.toInt32)), (.int (3 : Int32)), (.ref b4)])) rfl rfl (hb hby at_32)
  have N16 := Fr.snoc X16 N13 g_b4
  have c17 : n0 ≤ h16.size := Nat.le_trans c14 (Keep.of_wr W16).1
  have c18 : IAr Z h16 b4 .byte (4 : Int32) (f0_v32 p1 p2 p3) := V16
  have pre1 : ∀ t, Steps p.tables e below (T16.setTop (mkF m 53 #[.val (.int p1), .val (.int p2), .val (.int p3), .val (.ref b4), .val (.int (f0_v38 p1 p2 p3)), .val (.int (f0_v46 p1 p2 p3)), .unset, .unset] [(.int (f0_v46 p1 p2 p3)), (.int (f0_v38 p1 p2 p3))])) t → Steps p.tables e below (s₁.setTop (entryFrame m #[(.int p1), (.int p2), (.int p3)] maxLocals)) t := by
    intro t k
    refine pre0 t ?_
    show Steps p.tables e below (s₁.setTop (mkF m 0 #[.val (.int p1), .val (.int p2), .val (.int p3), .unset, .unset, .unset, .unset, .unset] [])) _
    refine XS.iconst X0.here hx rfl (hb hby at_0) ?_
    show Steps p.tables e below (s₁.setTop (mkF m 1 #[.val (.int p1), .val (.int p2), .val (.int p3), .unset, .unset, .unset, .unset, .unset] [(.int (4 : Int32))])) _
    refine st4 _ ?_
    show Steps p.tables e below (T4.setTop (mkF m 3 #[.val (.int p1), .val (.int p2), .val (.int p3), .unset, .unset, .unset, .unset, .unset] [(.ref b4)])) _
    refine XS.astoreN X4.here hx rfl (hb hby at_3) rfl rfl (l' := #[.val (.int p1), .val (.int p2), .val (.int p3), .val (.ref b4), .unset, .unset, .unset, .unset]) rfl ?_
    show Steps p.tables e below (T4.setTop (mkF m 4 #[.val (.int p1), .val (.int p2), .val (.int p3), .val (.ref b4), .unset, .unset, .unset, .unset] [])) _
    refine XS.aloadN X4.here hx rfl (hb hby at_4) rfl rfl ?_
    show Steps p.tables e below (T4.setTop (mkF m 5 #[.val (.int p1), .val (.int p2), .val (.int p3), .val (.ref b4), .unset, .unset, .unset, .unset] [(.ref b4)])) _
    refine XS.iconst X4.here hx rfl (hb hby at_5) ?_
    show Steps p.tables e below (T4.setTop (mkF m 6 #[.val (.int p1), .val (.int p2), .val (.int p3), .val (.ref b4), .unset, .unset, .unset, .unset] [(.int (0 : Int32)), (.ref b4)])) _
    refine XS.iloadN X4.here hx rfl (hb hby at_6) rfl ?_
    show Steps p.tables e below (T4.setTop (mkF m 7 #[.val (.int p1), .val (.int p2), .val (.int p3), .val (.ref b4), .unset, .unset, .unset, .unset] [(.int p1), (.int (0 : Int32)), (.ref b4)])) _
    refine XS.i2b X4.here hx rfl (hb hby at_7) rfl ?_
    show Steps p.tables e below (T4.setTop (mkF m 8 #[.val (.int p1), .val (.int p2), .val (.int p3), .val (.ref b4), .unset, .unset, .unset, .unset] [(.int (p1.toInt8.toInt32)), (.int (0 : Int32)), (.ref b4)])) _
    refine st7 _ ?_
    show Steps p.tables e below (T7.setTop (mkF m 9 #[.val (.int p1), .val (.int p2), .val (.int p3), .val (.ref b4), .unset, .unset, .unset, .unset] [])) _
    refine XS.aloadN X7.here hx rfl (hb hby at_9) rfl rfl ?_
    show Steps p.tables e below (T7.setTop (mkF m 10 #[.val (.int p1), .val (.int p2), .val (.int p3), .val (.ref b4), .unset, .unset, .unset, .unset] [(.ref b4)])) _
    refine XS.iconst X7.here hx rfl (hb hby at_10) ?_
    show Steps p.tables e below (T7.setTop (mkF m 11 #[.val (.int p1), .val (.int p2), .val (.int p3), .val (.ref b4), .unset, .unset, .unset, .unset] [(.int (1 : Int32)), (.ref b4)])) _
    refine XS.iloadN X7.here hx rfl (hb hby at_11) rfl ?_
    show Steps p.tables e below (T7.setTop (mkF m 12 #[.val (.int p1), .val (.int p2), .val (.int p3), .val (.ref b4), .unset, .unset, .unset, .unset] [(.int p1), (.int (1 : Int32)), (.ref b4)])) _
    refine XS.bipush X7.here hx rfl (hb hby at_12) ?_
    show Steps p.tables e below (T7.setTop (mkF m 14 #[.val (.int p1), .val (.int p2), .val (.int p3), .val (.ref b4), .unset, .unset, .unset, .unset] [(.int (8 : Int32)), (.int p1), (.int (1 : Int32)), (.ref b4)])) _
    refine XS.iushr X7.here hx rfl (hb hby at_14) rfl ?_
    show Steps p.tables e below (T7.setTop (mkF m 15 #[.val (.int p1), .val (.int p2), .val (.int p3), .val (.ref b4), .unset, .unset, .unset, .unset] [(.int ((p1.toUInt32 >>> ((8 : Int32) &&& 31).toUInt32).toInt32)), (.int (1 : Int32)), (.ref b4)])) _
    refine XS.i2b X7.here hx rfl (hb hby at_15) rfl ?_
    show Steps p.tables e below (T7.setTop (mkF m 16 #[.val (.int p1), .val (.int p2), .val (.int p3), .val (.ref b4), .unset, .unset, .unset, .unset] [(.int (((p1.toUInt32 >>> ((8 : Int32) &&& 31).toUInt32).toInt32).toInt8.toInt32)), (.int (1 : Int32)), (.ref b4)])) _
    refine st10 _ ?_
    show Steps p.tables e below (T10.setTop (mkF m 17 #[.val (.int p1), .val (.int p2), .val (.int p3), .val (.ref b4), .unset, .unset, .unset, .unset] [])) _
    refine XS.aloadN X10.here hx rfl (hb hby at_17) rfl rfl ?_
    show Steps p.tables e below (T10.setTop (mkF m 18 #[.val (.int p1), .val (.int p2), .val (.int p3), .val (.ref b4), .unset, .unset, .unset, .unset] [(.ref b4)])) _
    refine XS.iconst X10.here hx rfl (hb hby at_18) ?_
    show Steps p.tables e below (T10.setTop (mkF m 19 #[.val (.int p1), .val (.int p2), .val (.int p3), .val (.ref b4), .unset, .unset, .unset, .unset] [(.int (2 : Int32)), (.ref b4)])) _
    refine XS.iloadN X10.here hx rfl (hb hby at_19) rfl ?_
    show Steps p.tables e below (T10.setTop (mkF m 20 #[.val (.int p1), .val (.int p2), .val (.int p3), .val (.ref b4), .unset, .unset, .unset, .unset] [(.int p1), (.int (2 : Int32)), (.ref b4)])) _
    refine XS.bipush X10.here hx rfl (hb hby at_20) ?_
    show Steps p.tables e below (T10.setTop (mkF m 22 #[.val (.int p1), .val (.int p2), .val (.int p3), .val (.ref b4), .unset, .unset, .unset, .unset] [(.int (16 : Int32)), (.int p1), (.int (2 : Int32)), (.ref b4)])) _
    refine XS.iushr X10.here hx rfl (hb hby at_22) rfl ?_
    show Steps p.tables e below (T10.setTop (mkF m 23 #[.val (.int p1), .val (.int p2), .val (.int p3), .val (.ref b4), .unset, .unset, .unset, .unset] [(.int ((p1.toUInt32 >>> ((16 : Int32) &&& 31).toUInt32).toInt32)), (.int (2 : Int32)), (.ref b4)])) _
    refine XS.i2b X10.here hx rfl (hb hby at_23) rfl ?_
    show Steps p.tables e below (T10.setTop (mkF m 24 #[.val (.int p1), .val (.int p2), .val (.int p3), .val (.ref b4), .unset, .unset, .unset, .unset] [(.int (((p1.toUInt32 >>> ((16 : Int32) &&& 31).toUInt32).toInt32).toInt8.toInt32)), (.int (2 : Int32)), (.ref b4)])) _
    refine st13 _ ?_
    show Steps p.tables e below (T13.setTop (mkF m 25 #[.val (.int p1), .val (.int p2), .val (.int p3), .val (.ref b4), .unset, .unset, .unset, .unset] [])) _
    refine XS.aloadN X13.here hx rfl (hb hby at_25) rfl rfl ?_
    show Steps p.tables e below (T13.setTop (mkF m 26 #[.val (.int p1), .val (.int p2), .val (.int p3), .val (.ref b4), .unset, .unset, .unset, .unset] [(.ref b4)])) _
    refine XS.iconst X13.here hx rfl (hb hby at_26) ?_
    show Steps p.tables e below (T13.setTop (mkF m 27 #[.val (.int p1), .val (.int p2), .val (.int p3), .val (.ref b4), .unset, .unset, .unset, .unset] [(.int (3 : Int32)), (.ref b4)])) _
    refine XS.iloadN X13.here hx rfl (hb hby at_27) rfl ?_
    show Steps p.tables e below (T13.setTop (mkF m 28 #[.val (.int p1), .val (.int p2), .val (.int p3), .val (.ref b4), .unset, .unset, .unset, .unset] [(.int p1), (.int (3 : Int32)), (.ref b4)])) _
    refine XS.bipush X13.here hx rfl (hb hby at_28) ?_
    show Steps p.tables e below (T13.setTop (mkF m 30 #[.val (.int p1), .val (.int p2), .val (.int p3), .val (.ref b4), .unset, .unset, .unset, .unset] [(.int (24 : Int32)), (.int p1), (.int (3 : Int32)), (.ref b4)])) _
    refine XS.iushr X13.here hx rfl (hb hby at_30) rfl ?_
    show Steps p.tables e below (T13.setTop (mkF m 31 #[.val (.int p1), .val (.int p2), .val (.int p3), .val (.ref b4), .unset, .unset, .unset, .unset] [(.int ((p1.toUInt32 >>> ((24 : Int32) &&& 31).toUInt32).toInt32)), (.int (3 : Int32)), (.ref b4)])) _
    refine XS.i2b X13.here hx rfl (hb hby at_31) rfl ?_
    show Steps p.tables e below (T13.setTop (mkF m 32 #[.val (.int p1), .val (.int p2), .val (.int p3), .val (.ref b4), .unset, .unset, .unset, .unset] [(.int (((p1.toUInt32 >>> ((24 : Int32) &&& 31).toUInt32).toInt32).toInt8.toInt32)), (.int (3 : Int32)), (.ref b4)])) _
    refine st16 _ ?_
    show Steps p.tables e below (T16.setTop (mkF m 33 #[.val (.int p1), .val (.int p2), .val (.int p3), .val (.ref b4), .unset, .unset, .unset, .unset] [])) _
    refine XS.iloadN X16.here hx rfl (hb hby at_33) rfl ?_
    show Steps p.tables e below (T16.setTop (mkF m 34 #[.val (.int p1), .val (.int p2), .val (.int p3), .val (.ref b4), .unset, .unset, .unset, .unset] [(.int p2)])) _
    refine X16.ldcInt hx hown (mvT hZ (hw _ (List.mem_of_getElem? (i := 1) rfl))) (g := (mkF m 34 #[.val (.int p1), .val (.int p2), .val (.int p3), .val (.ref b4), .unset, .unset, .unset, .unset] [(.int p2)])) rfl (hb hby at_34) _ ?_
    show Steps p.tables e below (T16.setTop (mkF m 36 #[.val (.int p1), .val (.int p2), .val (.int p3), .val (.ref b4), .unset, .unset, .unset, .unset] [(.int (2147483647 : Int32)), (.int p2)])) _
    refine XS.iand X16.here hx rfl (hb hby at_36) rfl ?_
    show Steps p.tables e below (T16.setTop (mkF m 37 #[.val (.int p1), .val (.int p2), .val (.int p3), .val (.ref b4), .unset, .unset, .unset, .unset] [(.int (p2 &&& (2147483647 : Int32)))])) _
    refine XS.iconst X16.here hx rfl (hb hby at_37) ?_
    show Steps p.tables e below (T16.setTop (mkF m 38 #[.val (.int p1), .val (.int p2), .val (.int p3), .val (.ref b4), .unset, .unset, .unset, .unset] [(.int (5 : Int32)), (.int (p2 &&& (2147483647 : Int32)))])) _
    refine XS.irem X16.here hx rfl (hb hby at_38) rfl (by decide) ?_
    show Steps p.tables e below (T16.setTop (mkF m 39 #[.val (.int p1), .val (.int p2), .val (.int p3), .val (.ref b4), .unset, .unset, .unset, .unset] [(.int (f0_v38 p1 p2 p3))])) _
    refine XS.istore X16.here hx rfl (hb hby at_39) rfl (l' := #[.val (.int p1), .val (.int p2), .val (.int p3), .val (.ref b4), .val (.int (f0_v38 p1 p2 p3)), .unset, .unset, .unset]) rfl ?_
    show Steps p.tables e below (T16.setTop (mkF m 41 #[.val (.int p1), .val (.int p2), .val (.int p3), .val (.ref b4), .val (.int (f0_v38 p1 p2 p3)), .unset, .unset, .unset] [])) _
    refine XS.iloadN X16.here hx rfl (hb hby at_41) rfl ?_
    show Steps p.tables e below (T16.setTop (mkF m 42 #[.val (.int p1), .val (.int p2), .val (.int p3), .val (.ref b4), .val (.int (f0_v38 p1 p2 p3)), .unset, .unset, .unset] [(.int p3)])) _
    refine X16.ldcInt hx hown (mvT hZ (hw _ (List.mem_of_getElem? (i := 1) rfl))) (g := (mkF m 42 #[.val (.int p1), .val (.int p2), .val (.int p3), .val (.ref b4), .val (.int (f0_v38 p1 p2 p3)), .unset, .unset, .unset] [(.int p3)])) rfl (hb hby at_42) _ ?_
    show Steps p.tables e below (T16.setTop (mkF m 44 #[.val (.int p1), .val (.int p2), .val (.int p3), .val (.ref b4), .val (.int (f0_v38 p1 p2 p3)), .unset, .unset, .unset] [(.int (2147483647 : Int32)), (.int p3)])) _
    refine XS.iand X16.here hx rfl (hb hby at_44) rfl ?_
    show Steps p.tables e below (T16.setTop (mkF m 45 #[.val (.int p1), .val (.int p2), .val (.int p3), .val (.ref b4), .val (.int (f0_v38 p1 p2 p3)), .unset, .unset, .unset] [(.int (p3 &&& (2147483647 : Int32)))])) _
    refine XS.iconst X16.here hx rfl (hb hby at_45) ?_
    show Steps p.tables e below (T16.setTop (mkF m 46 #[.val (.int p1), .val (.int p2), .val (.int p3), .val (.ref b4), .val (.int (f0_v38 p1 p2 p3)), .unset, .unset, .unset] [(.int (5 : Int32)), (.int (p3 &&& (2147483647 : Int32)))])) _
    refine XS.irem X16.here hx rfl (hb hby at_46) rfl (by decide) ?_
    show Steps p.tables e below (T16.setTop (mkF m 47 #[.val (.int p1), .val (.int p2), .val (.int p3), .val (.ref b4), .val (.int (f0_v38 p1 p2 p3)), .unset, .unset, .unset] [(.int (f0_v46 p1 p2 p3))])) _
    refine XS.istore X16.here hx rfl (hb hby at_47) rfl (l' := #[.val (.int p1), .val (.int p2), .val (.int p3), .val (.ref b4), .val (.int (f0_v38 p1 p2 p3)), .val (.int (f0_v46 p1 p2 p3)), .unset, .unset]) rfl ?_
    show Steps p.tables e below (T16.setTop (mkF m 49 #[.val (.int p1), .val (.int p2), .val (.int p3), .val (.ref b4), .val (.int (f0_v38 p1 p2 p3)), .val (.int (f0_v46 p1 p2 p3)), .unset, .unset] [])) _
    refine XS.iload X16.here hx rfl (hb hby at_49) rfl ?_
    show Steps p.tables e below (T16.setTop (mkF m 51 #[.val (.int p1), .val (.int p2), .val (.int p3), .val (.ref b4), .val (.int (f0_v38 p1 p2 p3)), .val (.int (f0_v46 p1 p2 p3)), .unset, .unset] [(.int (f0_v38 p1 p2 p3))])) _
    refine XS.iload X16.here hx rfl (hb hby at_51) rfl ?_
    exact k
  obtain ⟨T23, Lmpre2, X23, e23, N23, pre2⟩ : ∃ (T' : State) (L' : List Loc), Stand p l e room_1 s m #[(.int p1), (.int p2), (.int p3)] below meth c T' L' 1 4 ∧ T'.heap = h16 ∧ Fr n0 L' ∧ ∀ t, Steps p.tables e below (T'.setTop (mkF m 109 #[.val (.int p1), .val (.int p2), .val (.int p3), .val (.ref b4), .val (.int (f0_v38 p1 p2 p3)), .val (.int (f0_v46 p1 p2 p3)), .unset, .unset] [(.int (f0_s0_109 p1 p2 p3))])) t → Steps p.tables e below (s₁.setTop (entryFrame m #[(.int p1), (.int p2), (.int p3)] maxLocals)) t := by
    by_cases hc53 : (f0_v38 p1 p2 p3) < (f0_v46 p1 p2 p3)
    · obtain ⟨_, _, ⟨T19, L19, k19, n19⟩, -, X19, ⟨Lc19, hQ19, l19, y19, z19⟩, st19⟩ := Jvm.LawKit.callS X16 hx (y := (⟨"com/example/hoardr/hoardr/http/FramingIsDigitsPinLaw", "okAt", "([BIII)Z"⟩ : MethodName)) hown (mvT hZ (hw _ (List.mem_of_getElem? (i := 6) rfl))) (mvT hZ (hw _ (List.mem_of_getElem? (i := 7) rfl))) (mvT hZ (hw _ (List.mem_of_getElem? (i := 8) rfl))) (mvT hZ (hw _ (List.mem_of_getElem? (i := 9) rfl))) (by decide) (backOf (W := 0) (rm2 l Z a0 hw [] b4 (0 : Int32) (f0_v38 p1 p2 p3) (f0_v46 p1 p2 p3) (4 : Int32) (f0_v32 p1 p2 p3) h16 n0 c17 c18 (fun _ _ => ⟨by decide, by decide⟩)) hZ (hw _ (List.mem_of_getElem? (i := 9) rfl)) (hw _ (List.mem_of_getElem? (i := 8) rfl)) (by decide) (by decide)) (g := (mkF m 62 #[.val (.int p1), .val (.int p2), .val (.int p3), .val (.ref b4), .val (.int (f0_v38 p1 p2 p3)), .val (.int (f0_v46 p1 p2 p3)), .unset, .unset] [(.int (f0_v46 p1 p2 p3)), (.int (f0_v38 p1 p2 p3)), (.int (0 : Int32)), (.ref b4)])) rfl (by rw [hml]; rfl) (argsL := [(.ref b4), (.int (0 : Int32)), (.int (f0_v38 p1 p2 p3)), (.int (f0_v46 p1 p2 p3))]) (rest := []) (lenOf pd_1 rfl) rfl (by show 2 * 0 + _ ≤ _; exact Nat.le_of_eq rfl) (hb hby at_62) (fun _ _ => ⟨rfl, e16, (by decide : 1 + 0 ≤ _), (by decide : 4 + 0 ≤ _)⟩)
      dsimp only [Pt.U, Pt.locs, Pt.cells, Pt.slots] at X19 l19 y19 z19 st19 hQ19
      subst l19 y19 z19
      obtain ⟨rfl, N19q, e19⟩ := hQ19
      have N19 := Fr.app N16 N19q
      have pre3 : ∀ t, Steps p.tables e below (T19.setTop (mkF m 65 #[.val (.int p1), .val (.int p2), .val (.int p3), .val (.ref b4), .val (.int (f0_v38 p1 p2 p3)), .val (.int (f0_v46 p1 p2 p3)), .unset, .unset] [(.int (f2 (0 : Int32) (f0_v38 p1 p2 p3) (f0_v46 p1 p2 p3) (4 : Int32) (f0_v32 p1 p2 p3)))])) t → Steps p.tables e below (s₁.setTop (entryFrame m #[(.int p1), (.int p2), (.int p3)] maxLocals)) t := by
        intro t k
        refine pre1 t ?_
        show Steps p.tables e below (T16.setTop (mkF m 53 #[.val (.int p1), .val (.int p2), .val (.int p3), .val (.ref b4), .val (.int (f0_v38 p1 p2 p3)), .val (.int (f0_v46 p1 p2 p3)), .unset, .unset] [(.int (f0_v46 p1 p2 p3)), (.int (f0_v38 p1 p2 p3))])) _
        refine XS.icmpNo X16.here hx rfl (hb hby at_53) rfl (tlt hc53).2.1 ?_
        show Steps p.tables e below (T16.setTop (mkF m 56 #[.val (.int p1), .val (.int p2), .val (.int p3), .val (.ref b4), .val (.int (f0_v38 p1 p2 p3)), .val (.int (f0_v46 p1 p2 p3)), .unset, .unset] [])) _
        refine XS.aloadN X16.here hx rfl (hb hby at_56) rfl rfl ?_
        show Steps p.tables e below (T16.setTop (mkF m 57 #[.val (.int p1), .val (.int p2), .val (.int p3), .val (.ref b4), .val (.int (f0_v38 p1 p2 p3)), .val (.int (f0_v46 p1 p2 p3)), .unset, .unset] [(.ref b4)])) _
        refine XS.iconst X16.here hx rfl (hb hby at_57) ?_
        show Steps p.tables e below (T16.setTop (mkF m 58 #[.val (.int p1), .val (.int p2), .val (.int p3), .val (.ref b4), .val (.int (f0_v38 p1 p2 p3)), .val (.int (f0_v46 p1 p2 p3)), .unset, .unset] [(.int (0 : Int32)), (.ref b4)])) _
        refine XS.iload X16.here hx rfl (hb hby at_58) rfl ?_
        show Steps p.tables e below (T16.setTop (mkF m 60 #[.val (.int p1), .val (.int p2), .val (.int p3), .val (.ref b4), .val (.int (f0_v38 p1 p2 p3)), .val (.int (f0_v46 p1 p2 p3)), .unset, .unset] [(.int (f0_v38 p1 p2 p3)), (.int (0 : Int32)), (.ref b4)])) _
        refine XS.iload X16.here hx rfl (hb hby at_60) rfl ?_
        show Steps p.tables e below (T16.setTop (mkF m 62 #[.val (.int p1), .val (.int p2), .val (.int p3), .val (.ref b4), .val (.int (f0_v38 p1 p2 p3)), .val (.int (f0_v46 p1 p2 p3)), .unset, .unset] [(.int (f0_v46 p1 p2 p3)), (.int (f0_v38 p1 p2 p3)), (.int (0 : Int32)), (.ref b4)])) _
        refine st19 _ ?_
        exact k
      by_cases hc65 : (f2 (0 : Int32) (f0_v38 p1 p2 p3) (f0_v46 p1 p2 p3) (4 : Int32) (f0_v32 p1 p2 p3)) = (0 : Int32)
      · have eq4 := (show (f0_s0_109 p1 p2 p3) = (0 : Int32) from by unfold f0_s0_109; simp only [if_pos hc53, if_pos hc65])
        refine ⟨T19, _, X19, e19, N19, fun t k => ?_⟩
        try rw [eq4] at k
        refine pre3 t ?_
        show Steps p.tables e below (T19.setTop (mkF m 65 #[.val (.int p1), .val (.int p2), .val (.int p3), .val (.ref b4), .val (.int (f0_v38 p1 p2 p3)), .val (.int (f0_v46 p1 p2 p3)), .unset, .unset] [(.int (f2 (0 : Int32) (f0_v38 p1 p2 p3) (f0_v46 p1 p2 p3) (4 : Int32) (f0_v32 p1 p2 p3)))])) _
        refine XS.ifYes X19.here hx rfl (pc0 := 65) (pc' := 108) rfl (hb hby at_65) rfl ((if0 _ _).trans (teq hc65).1) (by decide) (by decide) ?_
        show Steps p.tables e below (T19.setTop (mkF m 108 #[.val (.int p1), .val (.int p2), .val (.int p3), .val (.ref b4), .val (.int (f0_v38 p1 p2 p3)), .val (.int (f0_v46 p1 p2 p3)), .unset, .unset] [])) _
        refine XS.iconst X19.here hx rfl (hb hby at_108) ?_
        exact k
      · obtain ⟨_, _, ⟨T20, L20, k20, n20⟩, -, X20, ⟨Lc20, hQ20, l20, y20, z20⟩, st20⟩ := Jvm.LawKit.callS X19 hx (y := (⟨"com/example/hoardr/hoardr/http/FramingIsDigitsPinLaw", "okAt", "([BIII)Z"⟩ : MethodName)) hown (mvT hZ (hw _ (List.mem_of_getElem? (i := 6) rfl))) (mvT hZ (hw _ (List.mem_of_getElem? (i := 7) rfl))) (mvT hZ (hw _ (List.mem_of_getElem? (i := 8) rfl))) (mvT hZ (hw _ (List.mem_of_getElem? (i := 9) rfl))) (by decide) (backOf (W := 0) (rm2 l Z a0 hw [] b4 (1 : Int32) (f0_v38 p1 p2 p3) (f0_v46 p1 p2 p3) (4 : Int32) (f0_v32 p1 p2 p3) h16 n0 c17 c18 (fun _ _ => ⟨by decide, by decide⟩)) hZ (hw _ (List.mem_of_getElem? (i := 9) rfl)) (hw _ (List.mem_of_getElem? (i := 8) rfl)) (by decide) (by decide)) (g := (mkF m 74 #[.val (.int p1), .val (.int p2), .val (.int p3), .val (.ref b4), .val (.int (f0_v38 p1 p2 p3)), .val (.int (f0_v46 p1 p2 p3)), .unset, .unset] [(.int (f0_v46 p1 p2 p3)), (.int (f0_v38 p1 p2 p3)), (.int (1 : Int32)), (.ref b4)])) rfl (by rw [hml]; rfl) (argsL := [(.ref b4), (.int (1 : Int32)), (.int (f0_v38 p1 p2 p3)), (.int (f0_v46 p1 p2 p3))]) (rest := []) (lenOf pd_1 rfl) rfl (by show 2 * 0 + _ ≤ _; exact Nat.le_of_eq rfl) (hb hby at_74) (fun _ _ => ⟨rfl, e19, (by decide : 1 + 0 ≤ _), (by decide : 4 + 0 ≤ _)⟩)
        dsimp only [Pt.U, Pt.locs, Pt.cells, Pt.slots] at X20 l20 y20 z20 st20 hQ20
        subst l20 y20 z20
        obtain ⟨rfl, N20q, e20⟩ := hQ20
        have N20 := Fr.app N19 N20q
        have pre5 : ∀ t, Steps p.tables e below (T20.setTop (mkF m 77 #[.val (.int p1), .val (.int p2), .val (.int p3), .val (.ref b4), .val (.int (f0_v38 p1 p2 p3)), .val (.int (f0_v46 p1 p2 p3)), .unset, .unset] [(.int (f2 (1 : Int32) (f0_v38 p1 p2 p3) (f0_v46 p1 p2 p3) (4 : Int32) (f0_v32 p1 p2 p3)))])) t → Steps p.tables e below (s₁.setTop (entryFrame m #[(.int p1), (.int p2), (.int p3)] maxLocals)) t := by
          intro t k
          refine pre3 t ?_
          show Steps p.tables e below (T19.setTop (mkF m 65 #[.val (.int p1), .val (.int p2), .val (.int p3), .val (.ref b4), .val (.int (f0_v38 p1 p2 p3)), .val (.int (f0_v46 p1 p2 p3)), .unset, .unset] [(.int (f2 (0 : Int32) (f0_v38 p1 p2 p3) (f0_v46 p1 p2 p3) (4 : Int32) (f0_v32 p1 p2 p3)))])) _
          refine XS.ifNo X19.here hx rfl (hb hby at_65) rfl ((if0 _ _).trans (feq hc65).1) ?_
          show Steps p.tables e below (T19.setTop (mkF m 68 #[.val (.int p1), .val (.int p2), .val (.int p3), .val (.ref b4), .val (.int (f0_v38 p1 p2 p3)), .val (.int (f0_v46 p1 p2 p3)), .unset, .unset] [])) _
          refine XS.aloadN X19.here hx rfl (hb hby at_68) rfl rfl ?_
          show Steps p.tables e below (T19.setTop (mkF m 69 #[.val (.int p1), .val (.int p2), .val (.int p3), .val (.ref b4), .val (.int (f0_v38 p1 p2 p3)), .val (.int (f0_v46 p1 p2 p3)), .unset, .unset] [(.ref b4)])) _
          refine XS.iconst X19.here hx rfl (hb hby at_69) ?_
          show Steps p.tables e below (T19.setTop (mkF m 70 #[.val (.int p1), .val (.int p2), .val (.int p3), .val (.ref b4), .val (.int (f0_v38 p1 p2 p3)), .val (.int (f0_v46 p1 p2 p3)), .unset, .unset] [(.int (1 : Int32)), (.ref b4)])) _
          refine XS.iload X19.here hx rfl (hb hby at_70) rfl ?_
          show Steps p.tables e below (T19.setTop (mkF m 72 #[.val (.int p1), .val (.int p2), .val (.int p3), .val (.ref b4), .val (.int (f0_v38 p1 p2 p3)), .val (.int (f0_v46 p1 p2 p3)), .unset, .unset] [(.int (f0_v38 p1 p2 p3)), (.int (1 : Int32)), (.ref b4)])) _
          refine XS.iload X19.here hx rfl (hb hby at_72) rfl ?_
          show Steps p.tables e below (T19.setTop (mkF m 74 #[.val (.int p1), .val (.int p2), .val (.int p3), .val (.ref b4), .val (.int (f0_v38 p1 p2 p3)), .val (.int (f0_v46 p1 p2 p3)), .unset, .unset] [(.int (f0_v46 p1 p2 p3)), (.int (f0_v38 p1 p2 p3)), (.int (1 : Int32)), (.ref b4)])) _
          refine st20 _ ?_
          exact k
        by_cases hc77 : (f2 (1 : Int32) (f0_v38 p1 p2 p3) (f0_v46 p1 p2 p3) (4 : Int32) (f0_v32 p1 p2 p3)) = (0 : Int32)
        · have eq6 := (show (f0_s0_109 p1 p2 p3) = (0 : Int32) from by unfold f0_s0_109; simp only [if_pos hc53, if_neg hc65, if_pos hc77])
          refine ⟨T20, _, X20, e20, N20, fun t k => ?_⟩
          try rw [eq6] at k
          refine pre5 t ?_
          show Steps p.tables e below (T20.setTop (mkF m 77 #[.val (.int p1), .val (.int p2), .val (.int p3), .val (.ref b4), .val (.int (f0_v38 p1 p2 p3)), .val (.int (f0_v46 p1 p2 p3)), .unset, .unset] [(.int (f2 (1 : Int32) (f0_v38 p1 p2 p3) (f0_v46 p1 p2 p3) (4 : Int32) (f0_v32 p1 p2 p3)))])) _
          refine XS.ifYes X20.here hx rfl (pc0 := 77) (pc' := 108) rfl (hb hby at_77) rfl ((if0 _ _).trans (teq hc77).1) (by decide) (by decide) ?_
          show Steps p.tables e below (T20.setTop (mkF m 108 #[.val (.int p1), .val (.int p2), .val (.int p3), .val (.ref b4), .val (.int (f0_v38 p1 p2 p3)), .val (.int (f0_v46 p1 p2 p3)), .unset, .unset] [])) _
          refine XS.iconst X20.here hx rfl (hb hby at_108) ?_
          exact k
        · obtain ⟨_, _, ⟨T21, L21, k21, n21⟩, -, X21, ⟨Lc21, hQ21, l21, y21, z21⟩, st21⟩ := Jvm.LawKit.callS X20 hx (y := (⟨"com/example/hoardr/hoardr/http/FramingIsDigitsPinLaw", "okAt", "([BIII)Z"⟩ : MethodName)) hown (mvT hZ (hw _ (List.mem_of_getElem? (i := 6) rfl))) (mvT hZ (hw _ (List.mem_of_getElem? (i := 7) rfl))) (mvT hZ (hw _ (List.mem_of_getElem? (i := 8) rfl))) (mvT hZ (hw _ (List.mem_of_getElem? (i := 9) rfl))) (by decide) (backOf (W := 0) (rm2 l Z a0 hw [] b4 (2 : Int32) (f0_v38 p1 p2 p3) (f0_v46 p1 p2 p3) (4 : Int32) (f0_v32 p1 p2 p3) h16 n0 c17 c18 (fun _ _ => ⟨by decide, by decide⟩)) hZ (hw _ (List.mem_of_getElem? (i := 9) rfl)) (hw _ (List.mem_of_getElem? (i := 8) rfl)) (by decide) (by decide)) (g := (mkF m 86 #[.val (.int p1), .val (.int p2), .val (.int p3), .val (.ref b4), .val (.int (f0_v38 p1 p2 p3)), .val (.int (f0_v46 p1 p2 p3)), .unset, .unset] [(.int (f0_v46 p1 p2 p3)), (.int (f0_v38 p1 p2 p3)), (.int (2 : Int32)), (.ref b4)])) rfl (by rw [hml]; rfl) (argsL := [(.ref b4), (.int (2 : Int32)), (.int (f0_v38 p1 p2 p3)), (.int (f0_v46 p1 p2 p3))]) (rest := []) (lenOf pd_1 rfl) rfl (by show 2 * 0 + _ ≤ _; exact Nat.le_of_eq rfl) (hb hby at_86) (fun _ _ => ⟨rfl, e20, (by decide : 1 + 0 ≤ _), (by decide : 4 + 0 ≤ _)⟩)
          dsimp only [Pt.U, Pt.locs, Pt.cells, Pt.slots] at X21 l21 y21 z21 st21 hQ21
          subst l21 y21 z21
          obtain ⟨rfl, N21q, e21⟩ := hQ21
          have N21 := Fr.app N20 N21q
          have pre7 : ∀ t, Steps p.tables e below (T21.setTop (mkF m 89 #[.val (.int p1), .val (.int p2), .val (.int p3), .val (.ref b4), .val (.int (f0_v38 p1 p2 p3)), .val (.int (f0_v46 p1 p2 p3)), .unset, .unset] [(.int (f2 (2 : Int32) (f0_v38 p1 p2 p3) (f0_v46 p1 p2 p3) (4 : Int32) (f0_v32 p1 p2 p3)))])) t → Steps p.tables e below (s₁.setTop (entryFrame m #[(.int p1), (.int p2), (.int p3)] maxLocals)) t := by
            intro t k
            refine pre5 t ?_
            show Steps p.tables e below (T20.setTop (mkF m 77 #[.val (.int p1), .val (.int p2), .val (.int p3), .val (.ref b4), .val (.int (f0_v38 p1 p2 p3)), .val (.int (f0_v46 p1 p2 p3)), .unset, .unset] [(.int (f2 (1 : Int32) (f0_v38 p1 p2 p3) (f0_v46 p1 p2 p3) (4 : Int32) (f0_v32 p1 p2 p3)))])) _
            refine XS.ifNo X20.here hx rfl (hb hby at_77) rfl ((if0 _ _).trans (feq hc77).1) ?_
            show Steps p.tables e below (T20.setTop (mkF m 80 #[.val (.int p1), .val (.int p2), .val (.int p3), .val (.ref b4), .val (.int (f0_v38 p1 p2 p3)), .val (.int (f0_v46 p1 p2 p3)), .unset, .unset] [])) _
            refine XS.aloadN X20.here hx rfl (hb hby at_80) rfl rfl ?_
            show Steps p.tables e below (T20.setTop (mkF m 81 #[.val (.int p1), .val (.int p2), .val (.int p3), .val (.ref b4), .val (.int (f0_v38 p1 p2 p3)), .val (.int (f0_v46 p1 p2 p3)), .unset, .unset] [(.ref b4)])) _
            refine XS.iconst X20.here hx rfl (hb hby at_81) ?_
            show Steps p.tables e below (T20.setTop (mkF m 82 #[.val (.int p1), .val (.int p2), .val (.int p3), .val (.ref b4), .val (.int (f0_v38 p1 p2 p3)), .val (.int (f0_v46 p1 p2 p3)), .unset, .unset] [(.int (2 : Int32)), (.ref b4)])) _
            refine XS.iload X20.here hx rfl (hb hby at_82) rfl ?_
            show Steps p.tables e below (T20.setTop (mkF m 84 #[.val (.int p1), .val (.int p2), .val (.int p3), .val (.ref b4), .val (.int (f0_v38 p1 p2 p3)), .val (.int (f0_v46 p1 p2 p3)), .unset, .unset] [(.int (f0_v38 p1 p2 p3)), (.int (2 : Int32)), (.ref b4)])) _
            refine XS.iload X20.here hx rfl (hb hby at_84) rfl ?_
            show Steps p.tables e below (T20.setTop (mkF m 86 #[.val (.int p1), .val (.int p2), .val (.int p3), .val (.ref b4), .val (.int (f0_v38 p1 p2 p3)), .val (.int (f0_v46 p1 p2 p3)), .unset, .unset] [(.int (f0_v46 p1 p2 p3)), (.int (f0_v38 p1 p2 p3)), (.int (2 : Int32)), (.ref b4)])) _
            refine st21 _ ?_
            exact k
          by_cases hc89 : (f2 (2 : Int32) (f0_v38 p1 p2 p3) (f0_v46 p1 p2 p3) (4 : Int32) (f0_v32 p1 p2 p3)) = (0 : Int32)
          · have eq8 := (show (f0_s0_109 p1 p2 p3) = (0 : Int32) from by unfold f0_s0_109; simp only [if_pos hc53, if_neg hc65, if_neg hc77, if_pos hc89])
            refine ⟨T21, _, X21, e21, N21, fun t k => ?_⟩
            try rw [eq8] at k
            refine pre7 t ?_
            show Steps p.tables e below (T21.setTop (mkF m 89 #[.val (.int p1), .val (.int p2), .val (.int p3), .val (.ref b4), .val (.int (f0_v38 p1 p2 p3)), .val (.int (f0_v46 p1 p2 p3)), .unset, .unset] [(.int (f2 (2 : Int32) (f0_v38 p1 p2 p3) (f0_v46 p1 p2 p3) (4 : Int32) (f0_v32 p1 p2 p3)))])) _
            refine XS.ifYes X21.here hx rfl (pc0 := 89) (pc' := 108) rfl (hb hby at_89) rfl ((if0 _ _).trans (teq hc89).1) (by decide) (by decide) ?_
            show Steps p.tables e below (T21.setTop (mkF m 108 #[.val (.int p1), .val (.int p2), .val (.int p3), .val (.ref b4), .val (.int (f0_v38 p1 p2 p3)), .val (.int (f0_v46 p1 p2 p3)), .unset, .unset] [])) _
            refine XS.iconst X21.here hx rfl (hb hby at_108) ?_
            exact k
          · obtain ⟨_, _, ⟨T22, L22, k22, n22⟩, -, X22, ⟨Lc22, hQ22, l22, y22, z22⟩, st22⟩ := Jvm.LawKit.callS X21 hx (y := (⟨"com/example/hoardr/hoardr/http/FramingIsDigitsPinLaw", "okAt", "([BIII)Z"⟩ : MethodName)) hown (mvT hZ (hw _ (List.mem_of_getElem? (i := 6) rfl))) (mvT hZ (hw _ (List.mem_of_getElem? (i := 7) rfl))) (mvT hZ (hw _ (List.mem_of_getElem? (i := 8) rfl))) (mvT hZ (hw _ (List.mem_of_getElem? (i := 9) rfl))) (by decide) (backOf (W := 0) (rm2 l Z a0 hw [] b4 (3 : Int32) (f0_v38 p1 p2 p3) (f0_v46 p1 p2 p3) (4 : Int32) (f0_v32 p1 p2 p3) h16 n0 c17 c18 (fun _ _ => ⟨by decide, by decide⟩)) hZ (hw _ (List.mem_of_getElem? (i := 9) rfl)) (hw _ (List.mem_of_getElem? (i := 8) rfl)) (by decide) (by decide)) (g := (mkF m 98 #[.val (.int p1), .val (.int p2), .val (.int p3), .val (.ref b4), .val (.int (f0_v38 p1 p2 p3)), .val (.int (f0_v46 p1 p2 p3)), .unset, .unset] [(.int (f0_v46 p1 p2 p3)), (.int (f0_v38 p1 p2 p3)), (.int (3 : Int32)), (.ref b4)])) rfl (by rw [hml]; rfl) (argsL := [(.ref b4), (.int (3 : Int32)), (.int (f0_v38 p1 p2 p3)), (.int (f0_v46 p1 p2 p3))]) (rest := []) (lenOf pd_1 rfl) rfl (by show 2 * 0 + _ ≤ _; exact Nat.le_of_eq rfl) (hb hby at_98) (fun _ _ => ⟨rfl, e21, (by decide : 1 + 0 ≤ _), (by decide : 4 + 0 ≤ _)⟩)
            dsimp only [Pt.U, Pt.locs, Pt.cells, Pt.slots] at X22 l22 y22 z22 st22 hQ22
            subst l22 y22 z22
            obtain ⟨rfl, N22q, e22⟩ := hQ22
            have N22 := Fr.app N21 N22q
            have pre9 : ∀ t, Steps p.tables e below (T22.setTop (mkF m 101 #[.val (.int p1), .val (.int p2), .val (.int p3), .val (.ref b4), .val (.int (f0_v38 p1 p2 p3)), .val (.int (f0_v46 p1 p2 p3)), .unset, .unset] [(.int (f2 (3 : Int32) (f0_v38 p1 p2 p3) (f0_v46 p1 p2 p3) (4 : Int32) (f0_v32 p1 p2 p3)))])) t → Steps p.tables e below (s₁.setTop (entryFrame m #[(.int p1), (.int p2), (.int p3)] maxLocals)) t := by
              intro t k
              refine pre7 t ?_
              show Steps p.tables e below (T21.setTop (mkF m 89 #[.val (.int p1), .val (.int p2), .val (.int p3), .val (.ref b4), .val (.int (f0_v38 p1 p2 p3)), .val (.int (f0_v46 p1 p2 p3)), .unset, .unset] [(.int (f2 (2 : Int32) (f0_v38 p1 p2 p3) (f0_v46 p1 p2 p3) (4 : Int32) (f0_v32 p1 p2 p3)))])) _
              refine XS.ifNo X21.here hx rfl (hb hby at_89) rfl ((if0 _ _).trans (feq hc89).1) ?_
              show Steps p.tables e below (T21.setTop (mkF m 92 #[.val (.int p1), .val (.int p2), .val (.int p3), .val (.ref b4), .val (.int (f0_v38 p1 p2 p3)), .val (.int (f0_v46 p1 p2 p3)), .unset, .unset] [])) _
              refine XS.aloadN X21.here hx rfl (hb hby at_92) rfl rfl ?_
              show Steps p.tables e below (T21.setTop (mkF m 93 #[.val (.int p1), .val (.int p2), .val (.int p3), .val (.ref b4), .val (.int (f0_v38 p1 p2 p3)), .val (.int (f0_v46 p1 p2 p3)), .unset, .unset] [(.ref b4)])) _
              refine XS.iconst X21.here hx rfl (hb hby at_93) ?_
              show Steps p.tables e below (T21.setTop (mkF m 94 #[.val (.int p1), .val (.int p2), .val (.int p3), .val (.ref b4), .val (.int (f0_v38 p1 p2 p3)), .val (.int (f0_v46 p1 p2 p3)), .unset, .unset] [(.int (3 : Int32)), (.ref b4)])) _
              refine XS.iload X21.here hx rfl (hb hby at_94) rfl ?_
              show Steps p.tables e below (T21.setTop (mkF m 96 #[.val (.int p1), .val (.int p2), .val (.int p3), .val (.ref b4), .val (.int (f0_v38 p1 p2 p3)), .val (.int (f0_v46 p1 p2 p3)), .unset, .unset] [(.int (f0_v38 p1 p2 p3)), (.int (3 : Int32)), (.ref b4)])) _
              refine XS.iload X21.here hx rfl (hb hby at_96) rfl ?_
              show Steps p.tables e below (T21.setTop (mkF m 98 #[.val (.int p1), .val (.int p2), .val (.int p3), .val (.ref b4), .val (.int (f0_v38 p1 p2 p3)), .val (.int (f0_v46 p1 p2 p3)), .unset, .unset] [(.int (f0_v46 p1 p2 p3)), (.int (f0_v38 p1 p2 p3)), (.int (3 : Int32)), (.ref b4)])) _
              refine st22 _ ?_
              exact k
            by_cases hc101 : (f2 (3 : Int32) (f0_v38 p1 p2 p3) (f0_v46 p1 p2 p3) (4 : Int32) (f0_v32 p1 p2 p3)) = (0 : Int32)
            · have eq10 := (show (f0_s0_109 p1 p2 p3) = (0 : Int32) from by unfold f0_s0_109; simp only [if_pos hc53, if_neg hc65, if_neg hc77, if_neg hc89, if_pos hc101])
              refine ⟨T22, _, X22, e22, N22, fun t k => ?_⟩
              try rw [eq10] at k
              refine pre9 t ?_
              show Steps p.tables e below (T22.setTop (mkF m 101 #[.val (.int p1), .val (.int p2), .val (.int p3), .val (.ref b4), .val (.int (f0_v38 p1 p2 p3)), .val (.int (f0_v46 p1 p2 p3)), .unset, .unset] [(.int (f2 (3 : Int32) (f0_v38 p1 p2 p3) (f0_v46 p1 p2 p3) (4 : Int32) (f0_v32 p1 p2 p3)))])) _
              refine XS.ifYes X22.here hx rfl (pc0 := 101) (pc' := 108) rfl (hb hby at_101) rfl ((if0 _ _).trans (teq hc101).1) (by decide) (by decide) ?_
              show Steps p.tables e below (T22.setTop (mkF m 108 #[.val (.int p1), .val (.int p2), .val (.int p3), .val (.ref b4), .val (.int (f0_v38 p1 p2 p3)), .val (.int (f0_v46 p1 p2 p3)), .unset, .unset] [])) _
              refine XS.iconst X22.here hx rfl (hb hby at_108) ?_
              exact k
            · have eq11 := (show (f0_s0_109 p1 p2 p3) = (1 : Int32) from by unfold f0_s0_109; simp only [if_pos hc53, if_neg hc65, if_neg hc77, if_neg hc89, if_neg hc101])
              refine ⟨T22, _, X22, e22, N22, fun t k => ?_⟩
              try rw [eq11] at k
              refine pre9 t ?_
              show Steps p.tables e below (T22.setTop (mkF m 101 #[.val (.int p1), .val (.int p2), .val (.int p3), .val (.ref b4), .val (.int (f0_v38 p1 p2 p3)), .val (.int (f0_v46 p1 p2 p3)), .unset, .unset] [(.int (f2 (3 : Int32) (f0_v38 p1 p2 p3) (f0_v46 p1 p2 p3) (4 : Int32) (f0_v32 p1 p2 p3)))])) _
              refine XS.ifNo X22.here hx rfl (hb hby at_101) rfl ((if0 _ _).trans (feq hc101).1) ?_
              show Steps p.tables e below (T22.setTop (mkF m 104 #[.val (.int p1), .val (.int p2), .val (.int p3), .val (.ref b4), .val (.int (f0_v38 p1 p2 p3)), .val (.int (f0_v46 p1 p2 p3)), .unset, .unset] [])) _
              refine XS.iconst X22.here hx rfl (hb hby at_104) ?_
              show Steps p.tables e below (T22.setTop (mkF m 105 #[.val (.int p1), .val (.int p2), .val (.int p3), .val (.ref b4), .val (.int (f0_v38 p1 p2 p3)), .val (.int (f0_v46 p1 p2 p3)), .unset, .unset] [(.int (1 : Int32))])) _
              refine XS.goto X22.here hx rfl (pc0 := 105) (pc' := 109) rfl (hb hby at_105) (by decide) (by decide) ?_
              exact k
    · have eq12 := (show (f0_s0_109 p1 p2 p3) = (0 : Int32) from by unfold f0_s0_109; simp only [if_neg hc53])
      refine ⟨T16, _, X16, e16, N16, fun t k => ?_⟩
      try rw [eq12] at k
      refine pre1 t ?_
      show Steps p.tables e below (T16.setTop (mkF m 53 #[.val (.int p1), .val (.int p2), .val (.int p3), .val (.ref b4), .val (.int (f0_v38 p1 p2 p3)), .val (.int (f0_v46 p1 p2 p3)), .unset, .unset] [(.int (f0_v46 p1 p2 p3)), (.int (f0_v38 p1 p2 p3))])) _
      refine XS.icmpYes X16.here hx rfl (pc0 := 53) (pc' := 108) rfl (hb hby at_53) rfl (flt hc53).2.1 (by decide) (by decide) ?_
      show Steps p.tables e below (T16.setTop (mkF m 108 #[.val (.int p1), .val (.int p2), .val (.int p3), .val (.ref b4), .val (.int (f0_v38 p1 p2 p3)), .val (.int (f0_v46 p1 p2 p3)), .unset, .unset] [])) _
      refine XS.iconst X16.here hx rfl (hb hby at_108) ?_
      exact k
  obtain ⟨_, _, ⟨T24, L24, k24, n24⟩, -, X24, ⟨Lc24, hQ24, l24, y24, z24⟩, st24⟩ := Jvm.LawKit.callS X23 hx (y := (⟨"com/example/hoardr/hoardr/http/Framing", "isDigits", "([BII)Z"⟩ : MethodName)) hown (mvT hZ (hw _ (List.mem_of_getElem? (i := 2) rfl))) (mvT hZ (hw _ (List.mem_of_getElem? (i := 3) rfl))) (mvT hZ (hw _ (List.mem_of_getElem? (i := 4) rfl))) (mvT hZ (hw _ (List.mem_of_getElem? (i := 5) rfl))) (by decide) (backOf (W := 0) (rm1 l Z a0 hw [] b4 (f0_v38 p1 p2 p3) (f0_v46 p1 p2 p3) (4 : Int32) (f0_v32 p1 p2 p3) h16 n0 c17 c18 ⟨(own_r5 p2).1, Int.lt_add_one_iff.mp (own_r5 p3).2, Int.lt_add_one_iff.mp (own_r5 p3).2⟩) hZ (hw _ (List.mem_of_getElem? (i := 5) rfl)) (hw _ (List.mem_of_getElem? (i := 4) rfl)) (by decide) (by decide)) (g := (mkF m 116 #[.val (.int p1), .val (.int p2), .val (.int p3), .val (.ref b4), .val (.int (f0_v38 p1 p2 p3)), .val (.int (f0_v46 p1 p2 p3)), .val (.int (f0_s0_109 p1 p2 p3)), .unset] [(.int (f0_v46 p1 p2 p3)), (.int (f0_v38 p1 p2 p3)), (.ref b4)])) rfl (by rw [hml]; rfl) (argsL := [(.ref b4), (.int (f0_v38 p1 p2 p3)), (.int (f0_v46 p1 p2 p3))]) (rest := []) (lenOf pd_2 rfl) rfl (by show 2 * 0 + _ ≤ _; exact Nat.le_of_eq rfl) (hb hby at_116) (fun _ _ => ⟨rfl, e23, (by decide : 1 + 0 ≤ _), (by decide : 4 + 0 ≤ _)⟩)
  dsimp only [Pt.U, Pt.locs, Pt.cells, Pt.slots] at X24 l24 y24 z24 st24 hQ24
  subst l24 y24 z24
  obtain ⟨rfl, N24q, e24⟩ := hQ24
  have N24 := Fr.app N23 N24q
  have pre13 : ∀ t, Steps p.tables e below (T24.setTop (mkF m 125 #[.val (.int p1), .val (.int p2), .val (.int p3), .val (.ref b4), .val (.int (f0_v38 p1 p2 p3)), .val (.int (f0_v46 p1 p2 p3)), .val (.int (f0_s0_109 p1 p2 p3)), .val (.int (f1 (f0_v38 p1 p2 p3) (f0_v46 p1 p2 p3) (4 : Int32) (f0_v32 p1 p2 p3)))] [(.int (f1 (f0_v38 p1 p2 p3) (f0_v46 p1 p2 p3) (4 : Int32) (f0_v32 p1 p2 p3))), (.int (f0_s0_109 p1 p2 p3))])) t → Steps p.tables e below (s₁.setTop (entryFrame m #[(.int p1), (.int p2), (.int p3)] maxLocals)) t := by
    intro t k
    refine pre2 t ?_
    show Steps p.tables e below (T23.setTop (mkF m 109 #[.val (.int p1), .val (.int p2), .val (.int p3), .val (.ref b4), .val (.int (f0_v38 p1 p2 p3)), .val (.int (f0_v46 p1 p2 p3)), .unset, .unset] [(.int (f0_s0_109 p1 p2 p3))])) _
    refine XS.istore X23.here hx rfl (hb hby at_109) rfl (l' := #[.val (.int p1), .val (.int p2), .val (.int p3), .val (.ref b4), .val (.int (f0_v38 p1 p2 p3)), .val (.int (f0_v46 p1 p2 p3)), .val (.int (f0_s0_109 p1 p2 p3)), .unset]) rfl ?_
    show Steps p.tables e below (T23.setTop (mkF m 111 #[.val (.int p1), .val (.int p2), .val (.int p3), .val (.ref b4), .val (.int (f0_v38 p1 p2 p3)), .val (.int (f0_v46 p1 p2 p3)), .val (.int (f0_s0_109 p1 p2 p3)), .unset] [])) _
    refine XS.aloadN X23.here hx rfl (hb hby at_111) rfl rfl ?_
    show Steps p.tables e below (T23.setTop (mkF m 112 #[.val (.int p1), .val (.int p2), .val (.int p3), .val (.ref b4), .val (.int (f0_v38 p1 p2 p3)), .val (.int (f0_v46 p1 p2 p3)), .val (.int (f0_s0_109 p1 p2 p3)), .unset] [(.ref b4)])) _
    refine XS.iload X23.here hx rfl (hb hby at_112) rfl ?_
    show Steps p.tables e below (T23.setTop (mkF m 114 #[.val (.int p1), .val (.int p2), .val (.int p3), .val (.ref b4), .val (.int (f0_v38 p1 p2 p3)), .val (.int (f0_v46 p1 p2 p3)), .val (.int (f0_s0_109 p1 p2 p3)), .unset] [(.int (f0_v38 p1 p2 p3)), (.ref b4)])) _
    refine XS.iload X23.here hx rfl (hb hby at_114) rfl ?_
    show Steps p.tables e below (T23.setTop (mkF m 116 #[.val (.int p1), .val (.int p2), .val (.int p3), .val (.ref b4), .val (.int (f0_v38 p1 p2 p3)), .val (.int (f0_v46 p1 p2 p3)), .val (.int (f0_s0_109 p1 p2 p3)), .unset] [(.int (f0_v46 p1 p2 p3)), (.int (f0_v38 p1 p2 p3)), (.ref b4)])) _
    refine st24 _ ?_
    show Steps p.tables e below (T24.setTop (mkF m 119 #[.val (.int p1), .val (.int p2), .val (.int p3), .val (.ref b4), .val (.int (f0_v38 p1 p2 p3)), .val (.int (f0_v46 p1 p2 p3)), .val (.int (f0_s0_109 p1 p2 p3)), .unset] [(.int (f1 (f0_v38 p1 p2 p3) (f0_v46 p1 p2 p3) (4 : Int32) (f0_v32 p1 p2 p3)))])) _
    refine XS.istore X24.here hx rfl (hb hby at_119) rfl (l' := #[.val (.int p1), .val (.int p2), .val (.int p3), .val (.ref b4), .val (.int (f0_v38 p1 p2 p3)), .val (.int (f0_v46 p1 p2 p3)), .val (.int (f0_s0_109 p1 p2 p3)), .val (.int (f1 (f0_v38 p1 p2 p3) (f0_v46 p1 p2 p3) (4 : Int32) (f0_v32 p1 p2 p3)))]) rfl ?_
    show Steps p.tables e below (T24.setTop (mkF m 121 #[.val (.int p1), .val (.int p2), .val (.int p3), .val (.ref b4), .val (.int (f0_v38 p1 p2 p3)), .val (.int (f0_v46 p1 p2 p3)), .val (.int (f0_s0_109 p1 p2 p3)), .val (.int (f1 (f0_v38 p1 p2 p3) (f0_v46 p1 p2 p3) (4 : Int32) (f0_v32 p1 p2 p3)))] [])) _
    refine XS.iload X24.here hx rfl (hb hby at_121) rfl ?_
    show Steps p.tables e below (T24.setTop (mkF m 123 #[.val (.int p1), .val (.int p2), .val (.int p3), .val (.ref b4), .val (.int (f0_v38 p1 p2 p3)), .val (.int (f0_v46 p1 p2 p3)), .val (.int (f0_s0_109 p1 p2 p3)), .val (.int (f1 (f0_v38 p1 p2 p3) (f0_v46 p1 p2 p3) (4 : Int32) (f0_v32 p1 p2 p3)))] [(.int (f0_s0_109 p1 p2 p3))])) _
    refine XS.iload X24.here hx rfl (hb hby at_123) rfl ?_
    exact k
  by_cases hc125 : (f0_s0_109 p1 p2 p3) = (f1 (f0_v38 p1 p2 p3) (f0_v46 p1 p2 p3) (4 : Int32) (f0_v32 p1 p2 p3))
  · have eq14 : (f0 p1 p2 p3) = (1 : Int32) := by unfold f0; simp only [if_pos hc125]
    obtain ⟨fs, hr, hrun, hended, hW, hsame⟩ := X24.leave (v := some (.int (1 : Int32))) (fun h => by rw [Bd.returns] at h; cases h)
    refine ⟨_, _, pre13 _ ?_, hrun, hended, _, _, rfl, ?_, ⟨_, rfl⟩, hW, hsame.mono (by decide) (by decide)⟩
    · show Steps p.tables e below (T24.setTop (mkF m 125 #[.val (.int p1), .val (.int p2), .val (.int p3), .val (.ref b4), .val (.int (f0_v38 p1 p2 p3)), .val (.int (f0_v46 p1 p2 p3)), .val (.int (f0_s0_109 p1 p2 p3)), .val (.int (f1 (f0_v38 p1 p2 p3) (f0_v46 p1 p2 p3) (4 : Int32) (f0_v32 p1 p2 p3)))] [(.int (f1 (f0_v38 p1 p2 p3) (f0_v46 p1 p2 p3) (4 : Int32) (f0_v32 p1 p2 p3))), (.int (f0_s0_109 p1 p2 p3))])) _
      refine XS.icmpNo X24.here hx rfl (hb hby at_125) rfl (teq hc125).2 ?_
      show Steps p.tables e below (T24.setTop (mkF m 128 #[.val (.int p1), .val (.int p2), .val (.int p3), .val (.ref b4), .val (.int (f0_v38 p1 p2 p3)), .val (.int (f0_v46 p1 p2 p3)), .val (.int (f0_s0_109 p1 p2 p3)), .val (.int (f1 (f0_v38 p1 p2 p3) (f0_v46 p1 p2 p3) (4 : Int32) (f0_v32 p1 p2 p3)))] [])) _
      refine XS.iconst X24.here hx rfl (hb hby at_128) ?_
      show Steps p.tables e below (T24.setTop (mkF m 129 #[.val (.int p1), .val (.int p2), .val (.int p3), .val (.ref b4), .val (.int (f0_v38 p1 p2 p3)), .val (.int (f0_v46 p1 p2 p3)), .val (.int (f0_s0_109 p1 p2 p3)), .val (.int (f1 (f0_v38 p1 p2 p3) (f0_v46 p1 p2 p3) (4 : Int32) (f0_v32 p1 p2 p3)))] [(.int (1 : Int32))])) _
      refine XS.goto X24.here hx rfl (pc0 := 129) (pc' := 133) rfl (hb hby at_129) (by decide) (by decide) ?_
      show Steps p.tables e below (T24.setTop (mkF m 133 #[.val (.int p1), .val (.int p2), .val (.int p3), .val (.ref b4), .val (.int (f0_v38 p1 p2 p3)), .val (.int (f0_v46 p1 p2 p3)), .val (.int (f0_s0_109 p1 p2 p3)), .val (.int (f1 (f0_v38 p1 p2 p3) (f0_v46 p1 p2 p3) (4 : Int32) (f0_v32 p1 p2 p3)))] [(.int (1 : Int32))])) _
      exact retN X24 hx (t := .boolean) Bd.returns (by simp) (hb hby at_133) hr
    · show Q0 Z p1 p2 p3 h0 n0 _ T24.heap _
      rw [e24]
      exact ⟨by rw [eq14], N24, trivial⟩
  · have eq15 : (f0 p1 p2 p3) = (0 : Int32) := by unfold f0; simp only [if_neg hc125]
    obtain ⟨fs, hr, hrun, hended, hW, hsame⟩ := X24.leave (v := some (.int (0 : Int32))) (fun h => by rw [Bd.returns] at h; cases h)
    refine ⟨_, _, pre13 _ ?_, hrun, hended, _, _, rfl, ?_, ⟨_, rfl⟩, hW, hsame.mono (by decide) (by decide)⟩
    · show Steps p.tables e below (T24.setTop (mkF m 125 #[.val (.int p1), .val (.int p2), .val (.int p3), .val (.ref b4), .val (.int (f0_v38 p1 p2 p3)), .val (.int (f0_v46 p1 p2 p3)), .val (.int (f0_s0_109 p1 p2 p3)), .val (.int (f1 (f0_v38 p1 p2 p3) (f0_v46 p1 p2 p3) (4 : Int32) (f0_v32 p1 p2 p3)))] [(.int (f1 (f0_v38 p1 p2 p3) (f0_v46 p1 p2 p3) (4 : Int32) (f0_v32 p1 p2 p3))), (.int (f0_s0_109 p1 p2 p3))])) _
      refine XS.icmpYes X24.here hx rfl (pc0 := 125) (pc' := 132) rfl (hb hby at_125) rfl (feq hc125).2 (by decide) (by decide) ?_
      show Steps p.tables e below (T24.setTop (mkF m 132 #[.val (.int p1), .val (.int p2), .val (.int p3), .val (.ref b4), .val (.int (f0_v38 p1 p2 p3)), .val (.int (f0_v46 p1 p2 p3)), .val (.int (f0_s0_109 p1 p2 p3)), .val (.int (f1 (f0_v38 p1 p2 p3) (f0_v46 p1 p2 p3) (4 : Int32) (f0_v32 p1 p2 p3)))] [])) _
      refine XS.iconst X24.here hx rfl (hb hby at_132) ?_
      show Steps p.tables e below (T24.setTop (mkF m 133 #[.val (.int p1), .val (.int p2), .val (.int p3), .val (.ref b4), .val (.int (f0_v38 p1 p2 p3)), .val (.int (f0_v46 p1 p2 p3)), .val (.int (f0_s0_109 p1 p2 p3)), .val (.int (f1 (f0_v38 p1 p2 p3) (f0_v46 p1 p2 p3) (4 : Int32) (f0_v32 p1 p2 p3)))] [(.int (0 : Int32))])) _
      exact retN X24 hx (t := .boolean) Bd.returns (by simp) (hb hby at_133) hr
    · show Q0 Z p1 p2 p3 h0 n0 _ T24.heap _
      rw [e24]
      exact ⟨by rw [eq15], N24, trivial⟩
theorem own_five {x : Int32} (h : 0 ≤ x.toInt ∧ x.toInt < 5) : x = 0 ∨ x = 1 ∨ x = 2 ∨ x = 3 ∨ x = 4 := by
  have c : x.toInt = 0 ∨ x.toInt = 1 ∨ x.toInt = 2 ∨ x.toInt = 3 ∨ x.toInt = 4 := by omega
  rcases c with c | c | c | c | c
  · exact Or.inl (Int32.toInt_inj.mp c)
  · exact Or.inr (Or.inl (Int32.toInt_inj.mp c))
  · exact Or.inr (Or.inr (Or.inl (Int32.toInt_inj.mp c)))
  · exact Or.inr (Or.inr (Or.inr (Or.inl (Int32.toInt_inj.mp c))))
  · exact Or.inr (Or.inr (Or.inr (Or.inr (Int32.toInt_inj.mp c))))
theorem own_key (F T : Int32) (c : Nat → Int32) (hF : 0 ≤ F.toInt ∧ F.toInt < 5) (hT : 0 ≤ T.toInt ∧ T.toInt < 5) : (if F < T then (if f2 0 F T 4 c = 0 then 0 else if f2 1 F T 4 c = 0 then 0 else if f2 2 F T 4 c = 0 then 0 else if f2 3 F T 4 c = 0 then (0 : Int32) else 1) else 0) = f1 F T 4 c := by
  rcases own_five hF with rfl | rfl | rfl | rfl | rfl <;> rcases own_five hT with rfl | rfl | rfl | rfl | rfl <;> simp [f1, f2, f3, g1_9] <;> repeat' split
  all_goals first | rfl | (simp_all; done) | (exfalso; simp only [Int32.lt_iff_toInt_lt, Int32.le_iff_toInt_le, show (48 : Int32).toInt = 48 from rfl, show (57 : Int32).toInt = 57 from rfl] at *; omega)
theorem own_law (a f t : Int32) : f0 a f t = 1 := by
  unfold f0 f0_s0_109
  rw [own_key (f0_v38 a f t) (f0_v46 a f t) (f0_v32 a f t) (own_r5 f) (own_r5 t), if_pos rfl]

set_option maxRecDepth 65536 in
set_option maxHeartbeats 40000000 in
theorem comes_1 {Post : Tables → Env → Array Value → State → Outcome → State → Prop} (hpost : ∀ tb e args s v u, (limb_1_1.after args s (.returned v) u = true ∧ limb_1_2.after args s (.returned v) u = true ∧ True) → FrameEnd s (.returned v) u (Jvm.fieldLocs frame_1_writes args s ++ Jvm.arrayLocs frame_1_arrays args s ++ Jvm.staticLocs frame_1_statics s) 16 128 → Post tb e args s (.returned v) u) :
    ArmFor flags0 classFile x code maxLocals ret World_1 tables_1 room_1 Calls_1 rest_1 Pre_1 Post := by
  intro l hfl _ _ p e ha hc hk s m args below hf hA hF happ hP
  obtain ⟨hcalls, hrest, hpre⟩ := hP
  obtain ⟨-, -, -, hnamed, -, -, -, hat⟩ := (Spec.applies_iff hf).mp happ
  obtain ⟨hg, hn⟩ := and_e (Cond.before_iff.mp (show (Jvm.Cond.and given_1 narrow_1).before args s = true from hpre))
  obtain ⟨g1, g2⟩ := and_e hg
  obtain ⟨g3, g4⟩ := and_e g2
  obtain ⟨g5, g6⟩ := and_e g4
  obtain ⟨w0, w1, w2, rfl⟩ : ∃ w0 w1 w2 : Value, args = #[w0, w1, w2] := by
    have hs : args.size = 3 := by simpa [Cond.value, given_1] using g1
    obtain ⟨L⟩ := args
    match L, hs with
    | [w0, w1, w2], _ => exact ⟨w0, w1, w2, rfl⟩
  have hw := fun d (hd : d ∈ tables_1) => atoms_spec (ws := Jvm.Cond.code x code maxLocals ret :: tables_1) hat d (List.mem_cons_of_mem _ hd)
  have hfit : Fit s := fun {y c} hc i hi => by
    obtain ⟨ha, rfl⟩ := Array.getElem?_eq_some_iff.mp hc
    have q := List.all_eq_true.mp ((Array.all_eq_true_iff_forall_mem.mp hF) _ (Array.getElem_mem ha)) i (List.mem_range.mpr hi)
    simpa [Array.getElem?_eq_getElem hi] using q
  obtain ⟨i0, ei0⟩ := is_v g3
  obtain rfl : w0 = (.int i0) := Option.some.inj ei0
  obtain ⟨i1, ei1⟩ := is_v g5
  obtain rfl : w1 = (.int i1) := Option.some.inj ei1
  obtain ⟨i2, ei2⟩ := is_v g6
  obtain rfl : w2 = (.int i2) := Option.some.inj ei2
  obtain ⟨n, o, h1, h2, h3, v', L, rfl, ⟨hv', N, -⟩, hq⟩ := rm0 l s _ hw tables_1 i0 i1 i2 s.heap s.heap.size (Nat.le_refl _)  p e ha hc hk s m _ below hf ((Spec.applies_iff_loose hf).mp happ).1 ⟨rfl, State.Warmed39.refl s, rfl⟩ trivial
  rw [own_law i0 i1 i2] at hv'
  subst hv'
  refine ⟨n, _, h1, h2, h3, hpost _ _ _ _ _ _ ⟨Cond.after_iff.mpr rfl, Cond.after_iff.mpr (eq_i res_at (Term.int_eval (1)) rfl), trivial⟩ ⟨hq.1, hq.2.1, (hq.2.2.sift fun y hy => Or.inr (N y hy)).mono (by decide) (by decide)⟩⟩
theorem main_1_1 : Claimed_1_1 := comes_1 fun _ _ _ _ _ _ h hF => ⟨h.1, hF⟩
theorem main_1_2 : Claimed_1_2 := comes_1 fun _ _ _ _ _ _ h hF => ⟨h.2.1, hF⟩
end Jvm.Pilot.@@N@@
namespace Jvm.Pilot.@@N@@
open Jvm Jvm.ClassFile Sem Op Lib Jvm.Free Jvm.Stand Jvm.Pilot.@@N@@.Jvm.D
/-! MADE BY PROGRAM (witnessworld.py) out of the Statement's table words and the real class files: 9 classes; the members and pool entries that the words name. The judged class is class 1, her method 3. -/
namespace start1
open Jvm.ClassFile
def u (s : String) : CpInfo := .utf8 (stringToUtf16 s)
/-- a pool by its gaps: so many unusable entries, then the entry; so many at the end -/
def gap : Nat → List CpInfo → List CpInfo
  | 0, r => r
  | n + 1, r => .unusable :: gap n r
def poolList (es : List (Nat × CpInfo)) (last : Nat) : List CpInfo := es.foldr (fun e r => gap e.1 (e.2 :: r)) (gap last [])
def pool (es : List (Nat × CpInfo)) (last : Nat) : Array CpInfo := ⟨poolList es last⟩
def fileOf (pool : Array CpInfo) (this : Nat) (attrs : Array Attribute := #[]) (ms : Array MethodInfo := #[]) (fl : Nat := 33) (sup : Nat := 0) (ifs : Array Nat := #[]) (fds : Array FieldInfo := #[]) : ClassFile where
  minorVersion := 0
  majorVersion := 65
  constantPool := pool
  accessFlags := fl
  thisClass := this
  superClass := sup
  interfaces := ifs
  fields := fds
  methods := ms
  attributes := attrs
def plain (name : String) (sup : Option ClassId) : Class where
  name := name
  kind := .ordinary
  loader := none
  accessFlags := 33
  super := sup
  interfaces := #[]
  cf := none
  fields := #[]
  methods := #[]
  instanceTypes := #[]
  staticTypes := #[]
  resolved := #[]
  callSites := []
  init := .initialized
  statics := none
  mirror := none

def pool0 : Array CpInfo := pool [(5, u "<init>"), (0, u "()V"), (1, .class_ 10), (1, u "java/lang/Object")] 113

def k0m0 : Method := { name := "<init>", desc := "()V", sig := { parameters := [], returnType := none }, accessFlags := 1, code := none }
/-- java/lang/Object -/
def k0 : Class := { plain "java/lang/Object" none with
  accessFlags := 33
  interfaces := #[]
  cf := some (fileOf pool0 8 #[] #[{ accessFlags := 1, nameIndex := 5, descriptorIndex := 6, attributes := #[] }] 33 0 #[] #[])
  fields := #[]
  methods := #[k0m0]
  instanceTypes := #[]
  staticTypes := #[]
  resolved := Array.replicate 124 none
  statics := none }

def pool1 : Array CpInfo := pool [(2, .class_ 4), (1, u "java/lang/Object"), (0, u "<init>"), (0, u "()V"), (0, .methodref 8 9), (0, .class_ 10), (0, .nameAndType 11 12), (0, u "com/example/hoardr/hoardr/http/FramingIsDigitsPinLaw"), (0, u "digit"), (0, u "(B)Z"), (0, .integer 2147483647), (0, .methodref 8 15), (0, .nameAndType 16 17), (0, u "okAt"), (0, u "([BIII)Z"), (0, .methodref 19 20), (0, .class_ 21), (0, .nameAndType 22 23), (0, u "com/example/hoardr/hoardr/http/Framing"), (0, u "isDigits"), (0, u "([BII)Z"), (3, u "law"), (0, u "(III)Z")] 4

def k1m0 : Method := { name := "<init>", desc := "()V", sig := { parameters := [], returnType := none }, accessFlags := 2, code := none }
def k1c1 : Code := { maxStack := 2, maxLocals := 1, code := method_2_code, exceptionTable := #[], attributes := #[] }
def k1m1 : Method := { name := "digit", desc := "(B)Z", sig := { parameters := [.byte], returnType := some .boolean }, accessFlags := 10, code := some k1c1 }
def k1c2 : Code := { maxStack := 2, maxLocals := 4, code := method_3_code, exceptionTable := #[], attributes := #[] }
def k1m2 : Method := { name := "okAt", desc := "([BIII)Z", sig := { parameters := [(.array .byte), .int, .int, .int], returnType := some .boolean }, accessFlags := 10, code := some k1c2 }
def k1c3 : Code := { maxStack := 4, maxLocals := 8, code := code, exceptionTable := #[], attributes := #[] }
def k1m3 : Method := { name := "law", desc := "(III)Z", sig := { parameters := [.int, .int, .int], returnType := some .boolean }, accessFlags := 9, code := some k1c3 }
/-- com/example/hoardr/hoardr/http/FramingIsDigitsPinLaw -/
def k1 : Class := { plain "com/example/hoardr/hoardr/http/FramingIsDigitsPinLaw" (some 0) with
  accessFlags := 49
  interfaces := #[]
  cf := some (fileOf pool1 8 #[] #[{ accessFlags := 2, nameIndex := 5, descriptorIndex := 6, attributes := #[] }, { accessFlags := 10, nameIndex := 11, descriptorIndex := 12, attributes := #[] }, { accessFlags := 10, nameIndex := 16, descriptorIndex := 17, attributes := #[] }, { accessFlags := 9, nameIndex := 27, descriptorIndex := 28, attributes := #[] }] 49 2 #[] #[])
  fields := #[]
  methods := #[k1m0, k1m1, k1m2, k1m3]
  instanceTypes := #[]
  staticTypes := #[]
  resolved := Array.replicate 33 none
  statics := none }

def pool2 : Array CpInfo := pool [(1, .class_ 2), (0, u "com/example/hoardr/hoardr/http/Framing"), (1, .class_ 6), (1, u "java/lang/Object"), (0, u "<init>"), (0, u "()V"), (2, u "TOKEN_CHARACTERS"), (0, u "[Z"), (18, u "isDigits"), (0, u "([BII)Z"), (24, u "MAX_CHUNK_SIZE_DIGITS"), (0, u "I"), (2, u "PAST_ANY_CHUNK"), (0, u "J"), (0, u "MAX_LENGTH_DIGITS")] 13

def k2m0 : Method := { name := "<init>", desc := "()V", sig := { parameters := [], returnType := none }, accessFlags := 2, code := none }
def k2c1 : Code := { maxStack := 2, maxLocals := 4, code := prog_49_method_4_code, exceptionTable := #[], attributes := #[] }
def k2m1 : Method := { name := "isDigits", desc := "([BII)Z", sig := { parameters := [(.array .byte), .int, .int], returnType := some .boolean }, accessFlags := 8, code := some k2c1 }
/-- com/example/hoardr/hoardr/http/Framing -/
def k2 : Class := { plain "com/example/hoardr/hoardr/http/Framing" (some 0) with
  accessFlags := 48
  interfaces := #[]
  cf := some (fileOf pool2 1 #[] #[{ accessFlags := 2, nameIndex := 7, descriptorIndex := 8, attributes := #[] }, { accessFlags := 8, nameIndex := 31, descriptorIndex := 32, attributes := #[] }] 48 4 #[] #[{ accessFlags := 24, nameIndex := 57, descriptorIndex := 58, attributes := #[] }, { accessFlags := 24, nameIndex := 61, descriptorIndex := 62, attributes := #[] }, { accessFlags := 26, nameIndex := 63, descriptorIndex := 58, attributes := #[] }, { accessFlags := 26, nameIndex := 11, descriptorIndex := 12, attributes := #[] }])
  fields := #[{ name := "MAX_CHUNK_SIZE_DIGITS", type := .int, accessFlags := 24, slot := 0, constantValue := 0 }, { name := "PAST_ANY_CHUNK", type := .long, accessFlags := 24, slot := 1, constantValue := 0 }, { name := "MAX_LENGTH_DIGITS", type := .int, accessFlags := 26, slot := 2, constantValue := 0 }, { name := "TOKEN_CHARACTERS", type := (.array .boolean), accessFlags := 26, slot := 3, constantValue := 0 }]
  methods := #[k2m0, k2m1]
  instanceTypes := #[]
  staticTypes := #[.int, .long, .int, (.array .boolean)]
  resolved := Array.replicate 77 none
  statics := none }

def pool3 : Array CpInfo := pool [(1, u "java/lang/Cloneable"), (0, .class_ 1), (0, u "java/lang/Object"), (0, .class_ 3)] 3

/-- java/lang/Cloneable -/
def k3 : Class := { plain "java/lang/Cloneable" (some 0) with
  accessFlags := 1537
  interfaces := #[]
  cf := some (fileOf pool3 2 #[] #[] 1537 4 #[] #[])
  fields := #[]
  methods := #[]
  instanceTypes := #[]
  staticTypes := #[]
  resolved := Array.replicate 8 none
  statics := none }

def pool4 : Array CpInfo := pool [(1, u "java/io/Serializable"), (0, .class_ 1), (0, u "java/lang/Object"), (0, .class_ 3)] 3

/-- java/io/Serializable -/
def k4 : Class := { plain "java/io/Serializable" (some 0) with
  accessFlags := 1537
  interfaces := #[]
  cf := some (fileOf pool4 2 #[] #[] 1537 4 #[] #[])
  fields := #[]
  methods := #[]
  instanceTypes := #[]
  staticTypes := #[]
  resolved := Array.replicate 8 none
  statics := none }

/-- the primitive byte -/
def k5 : Class := { plain "byte" none with kind := .primitive 'B', accessFlags := 0x411 }
/-- [B -/
def k6 : Class := { plain "[B" (some 0) with kind := .array 5 .byte, interfaces := #[3, 4], accessFlags := 1041 }

/-- the primitive int -/
def k7 : Class := { plain "int" none with kind := .primitive 'I', accessFlags := 0x411 }
/-- [I -/
def k8 : Class := { plain "[I" (some 0) with kind := .array 7 .int, interfaces := #[3, 4], accessFlags := 1041 }

def heap : Heap := #[]
def classes : Array Class := #[k0, k1, k2, k3, k4, k5, k6, k7, k8]
def interned : List (Array UInt16 × Addr) := []
def slotsUsed : Nat := 0
def theMethod : MethodId := ⟨1, 3⟩
def args0 : Array Value := #[.int 65, .int 2, .int 3]
def aboutOver (below : List Frame) : State where
  vm := { classes := classes, interned := interned.toArray }
  heap := heap
  slotsUsed := slotsUsed
  threads := #[{ frames := .invoking theMethod args0 :: below }]
def below0 : List Frame := [.native { method := ⟨0, 0⟩, args := #[] }]
def about1 : State := aboutOver below0
def p0 : Program := .bare "" "" ""
def e0 : Env := launch0.env 0 0 0
theorem w_frames : about1.frames = Frame.invoking theMethod args0 :: below0 := rfl
set_option maxRecDepth 65536 in
theorem w_args : argsFit about1.vm theMethod args0 = true := by decide +kernel
set_option maxRecDepth 65536 in
theorem w_heap : heapFits about1 = true := by decide +kernel
set_option maxRecDepth 65536 in
theorem w_runnable : about1.curStatus? = some .runnable := by decide +kernel
set_option maxRecDepth 65536 in
theorem w_alone : about1.alone = true := by decide +kernel
set_option maxRecDepth 65536 in
theorem w_named : about1.methodNamed? x = some theMethod := by decide +kernel
set_option maxRecDepth 65536 in
theorem w_hears : about1.hears theMethod below0 = true := by decide +kernel
set_option maxRecDepth 65536 in
theorem w_ripe : about1.ripe theMethod args0 below0 = true := by decide +kernel
theorem w_running : about1.status = .running := rfl
set_option maxRecDepth 65536 in
theorem w_room : about1.hasRoom e0.platform room_1 = true :=
  launch0.hasRoom_least _ room_1 (by decide +kernel) (by decide +kernel) (by decide +kernel) (by decide +kernel) (by decide +kernel) (by decide +kernel)
theorem allAtoms_all (ts : List Jvm.Cond) (a : Array Jvm.Value) (st : Jvm.State) : (allAtoms ts).before a st = ts.all (fun c => c.before a st) := by
  induction ts with
  | nil => rfl
  | cons c t ih =>
    show (Jvm.Cond.and c (allAtoms t)).before a st = _
    rw [Jvm.Cond.before_and, ih, List.all_cons]
def words1 : List Jvm.Cond := Jvm.Cond.code x code maxLocals ret :: tables_1
/-- a 'code' word, met by the world's own term for the bytes: nothing is compared byte by byte -/
theorem code_word {y : MethodName} {bytes : ByteArray} {mx : Nat} {rt : Option FieldType} {a : Array Value} {s : State} {m : MethodId} {meth : Method} {c : Code} (h1 : s.methodNamed? y = some m) (h2 : s.vm.method? m = some meth) (h3 : meth.code = some c) (h4 : c.code = bytes)
    (h5 : (c.maxLocals == mx && c.exceptionTable.isEmpty && decide (c.maxStack ≤ mostOperands) && decide (meth.sig.returnType = rt) && !meth.locks && decide (parseMethodDescriptor y.desc = some meth.sig)) = true) : (Jvm.Cond.code y bytes mx rt).before a s = true := by
  simp only [Bool.and_eq_true, beq_iff_eq, Bool.not_eq_true', decide_eq_true_eq] at h5
  obtain ⟨⟨⟨⟨⟨g1, g2⟩, g3⟩, g4⟩, g5⟩, g6⟩ := h5
  simp [Cond.before, Cond.holds, Cond.value, h1, h2, h3, h4, g1, g2, g3, g4, g5, g6]
def isCode : Jvm.Cond → Bool
  | .code _ _ _ _ => true
  | _ => false
theorem all_split {L : List Jvm.Cond} {P : Jvm.Cond → Bool} (h1 : L.all (fun c => isCode c || P c) = true) (h2 : ∀ c ∈ L.filter isCode, P c = true) : L.all P = true := by
  refine List.all_eq_true.mpr fun c hc => ?_
  have h := List.all_eq_true.mp h1 c hc
  rcases Bool.eq_false_or_eq_true (isCode c) with hi | hi
  · exact h2 c (List.mem_filter.mpr ⟨hc, hi⟩)
  · simpa [hi] using h
set_option maxRecDepth 65536 in
theorem w_c0 : (Jvm.Cond.code x code maxLocals ret).before args0 about1 = true := code_word (m := ⟨1, 3⟩) (meth := k1m3) (c := k1c3) (by decide +kernel) rfl rfl rfl (by decide +kernel)
set_option maxRecDepth 65536 in
theorem w_c1 : (Jvm.Cond.code ({ cls := "com/example/hoardr/hoardr/http/Framing", name := "isDigits", desc := "([BII)Z" } : Jvm.MethodName) prog_49_method_4_code (4 : Nat) (Option.some Jvm.ClassFile.FieldType.boolean)).before args0 about1 = true := code_word (m := ⟨2, 1⟩) (meth := k2m1) (c := k2c1) (by decide +kernel) rfl rfl rfl (by decide +kernel)
set_option maxRecDepth 65536 in
theorem w_c2 : (Jvm.Cond.code ({ cls := "com/example/hoardr/hoardr/http/FramingIsDigitsPinLaw", name := "okAt", desc := "([BIII)Z" } : Jvm.MethodName) method_3_code (4 : Nat) (Option.some Jvm.ClassFile.FieldType.boolean)).before args0 about1 = true := code_word (m := ⟨1, 2⟩) (meth := k1m2) (c := k1c2) (by decide +kernel) rfl rfl rfl (by decide +kernel)
set_option maxRecDepth 65536 in
theorem w_c3 : (Jvm.Cond.code ({ cls := "com/example/hoardr/hoardr/http/FramingIsDigitsPinLaw", name := "digit", desc := "(B)Z" } : Jvm.MethodName) method_2_code (1 : Nat) (Option.some Jvm.ClassFile.FieldType.boolean)).before args0 about1 = true := code_word (m := ⟨1, 1⟩) (meth := k1m1) (c := k1c1) (by decide +kernel) rfl rfl rfl (by decide +kernel)
def codes1 : List Jvm.Cond := [Jvm.Cond.code x code maxLocals ret, Jvm.Cond.code ({ cls := "com/example/hoardr/hoardr/http/Framing", name := "isDigits", desc := "([BII)Z" } : Jvm.MethodName) prog_49_method_4_code (4 : Nat) (Option.some Jvm.ClassFile.FieldType.boolean), Jvm.Cond.code ({ cls := "com/example/hoardr/hoardr/http/FramingIsDigitsPinLaw", name := "okAt", desc := "([BIII)Z" } : Jvm.MethodName) method_3_code (4 : Nat) (Option.some Jvm.ClassFile.FieldType.boolean), Jvm.Cond.code ({ cls := "com/example/hoardr/hoardr/http/FramingIsDigitsPinLaw", name := "digit", desc := "(B)Z" } : Jvm.MethodName) method_2_code (1 : Nat) (Option.some Jvm.ClassFile.FieldType.boolean)]
set_option maxRecDepth 65536 in
theorem codes_eq : words1.filter isCode = codes1 := rfl
theorem w_codes : ∀ c ∈ words1.filter isCode, c.before args0 about1 = true := by
  rw [codes_eq]
  intro c hc
  simp only [codes1, List.mem_cons, List.not_mem_nil, or_false] at hc
  rcases hc with rfl | rfl | rfl | rfl
  · exact w_c0
  · exact w_c1
  · exact w_c2
  · exact w_c3
set_option maxRecDepth 65536 in
theorem w_t1 : words1.all (fun c => isCode c || c.before args0 about1) = true := by decide +kernel
theorem w_tables : (allAtoms (Jvm.Cond.code x code maxLocals ret :: tables_1)).before args0 about1 = true := by
  rw [allAtoms_all]
  show words1.all (fun c => c.before args0 about1) = true
  refine all_split ?_ w_codes
  rw [w_t1]
set_option maxRecDepth 65536 in
theorem w_case : (Jvm.Cond.and given_1 narrow_1).before args0 about1 = true := by decide +kernel
theorem w_applies : (headSpec (Jvm.Cond.code x code maxLocals ret :: tables_1) room_1).applies x e0.platform about1 = true :=
  (Spec.applies_iff w_frames).mpr ⟨w_running, w_runnable, w_alone, w_named, w_hears, w_ripe, w_room, w_tables⟩
theorem atStart : AtStart classFile x code maxLocals ret World_1 tables_1 room_1 Calls_1 rest_1 Pre_1 launch0 p0 e0 about1 theMethod args0 below0 :=
  ⟨lists_1, trivial, launch0.admits_env _ _ _, launch0.least_env, fairChoices_fair.cas, fairChoices_fair.clock, w_frames, w_args, w_heap, w_applies, trivial, trivial, w_case⟩
end start1
theorem witness_1 : WitnessClaimed_1 := ⟨start1.p0, start1.e0, start1.about1, start1.theMethod, start1.args0, start1.below0, start1.atStart⟩
end Jvm.Pilot.@@N@@
