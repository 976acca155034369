import JvmDerived
import JvmDerived.Pilot.@@N@@Statement
import JvmDerived.Pilot.@@N@@Code
set_option linter.unusedVariables false
set_option linter.unusedSimpArgs false
namespace Jvm.RoadKit
open Sem ClassFile Op Lib Jvm.Stand Jvm.Free Jvm.LawKit
def IAr (Z : State) (h : Heap) (a : Addr) (ty : FieldType) (n : Int32) (f : Nat → Int32) : Prop := ∃ c : Cell, Arr Z h a c ty ∧ c.slots.size = n.toNatClampNeg ∧ ¬ n < 0 ∧ ∀ i, i < c.slots.size → c.slots[i]? = some (.int (f i))
def ownU (f : Nat → Int32) (j : Nat) (v : Int32) : Nat → Int32 := fun i => if i = j then v else f i
section
variable {Z : State} {h h' : Heap} {a b : Addr} {ty : FieldType} {n : Int32} {f : Nat → Int32} {sl : Nat} {v : Value} {ws : List Addr}
theorem IAr.lt (F : IAr Z h a ty n f) : a < h.size := by obtain ⟨c, A, -⟩ := F; exact A.lt
theorem IAr.ext (F : IAr Z h a ty n f) (E : Ext h h') : IAr Z h' a ty n f := by obtain ⟨c, A, r⟩ := F; exact ⟨c, A.ext E, r⟩
theorem IAr.other (F : IAr Z h b ty n f) (W : Wr h h' a sl v) (q : b ≠ a) : IAr Z h' b ty n f := by obtain ⟨c, A, r⟩ := F; exact ⟨c, A.other W q, r⟩
theorem IAr.keep (F : IAr Z h a ty n f) (K : Keep h h' ws) (q : a ∉ ws) : IAr Z h' a ty n f := by obtain ⟨c, A, r⟩ := F; exact ⟨c, ⟨K.2.1 a c A.1 q, A.2⟩, r⟩
theorem IAr.nn (F : IAr Z h a ty n f) : ¬ n < 0 := by obtain ⟨c, A, S, q, r⟩ := F; exact q
theorem IAr.new {k : ClassId} {z : Int32} (A : Arr Z h a (newA k ty z) ty) (q : ¬ z < 0) (hd : defaultValue ty = .int 0) : IAr Z h a ty z (fun _ => 0) := by
  obtain ⟨c, A', -, S, q', H, -⟩ := Arv.new A q
  exact ⟨c, A', S, q', fun i hi => by have h1 := H i hi; rw [hd] at h1; simpa using h1⟩
theorem IAr.set {j : Nat} {x : Int32} (F : IAr Z h a ty n f) (W : Wr h h' a j (.int x)) : IAr Z h' a ty n (ownU f j x) := by
  obtain ⟨c, A, S, q, H⟩ := F
  refine ⟨c.setSlot j (.int x), A.same W, ?_, q, fun i hi => ?_⟩
  · simpa [Cell.setSlot] using S
  · have hi' : i < c.slots.size := by simpa [Cell.setSlot] using hi
    show (c.slots.setIfInBounds j (.int x))[i]? = some (.int (if i = j then x else f i))
    by_cases e : i = j
    · subst e
      rw [if_pos rfl, Array.getElem?_setIfInBounds_self_of_lt hi']
    · rw [if_neg e, Array.getElem?_setIfInBounds_ne (Ne.symm e)]
      exact H i hi'
end
section New
variable {p : Program} {l : Launch} {e : Env} {R : Room} {s : State} {m : MethodId} {args : Array Value} {below : List Frame} {meth : Method} {c : Code} {T : State} {locs : List Loc} {cells slots : Nat}
theorem retI (X : Stand p l e R s m args below meth c T locs cells slots) (hx : p.tables.exec = Jvm.exec) {pc : Nat} {Ls : Array Slot} {z : Int32} {rest : List Value} (hret : meth.sig.returnType = some .int) (hd : decode c.code pc = .ok (.ireturn, 1)) {fs : List Frame}
    (hl : ∀ (f : JFrame) (acts : List Action), f.method = m → f.locked = none → f.entered = [] → (doReturn e (T.setTop f) acts (some (.int z))).1 = T.setFrames fs) : Steps p.tables e below (T.setTop (mkF m pc Ls (.int z :: rest))) (T.setFrames fs) := by
  have hm' : T.vm.method? m = some meth := X.method'
  have hn : narrow .int (.int z) = .int z := rfl
  show Steps p.tables e below (T.setTop { method := m, pc := pc, locals := Ls, stack := _ :: rest, locked := none }) _
  jvm_step X.here [X.here.top, hx, hd, hm', hret, hn]
  first | (intro acts; rw [hl _ acts rfl rfl rfl]) | rw [hl _ _ rfl rfl rfl]
  exact Steps.refl _
theorem ldI {Z : State} {h : Heap} (X : Stand p l e R s m args below meth c T locs cells slots) (hx : p.tables.exec = Jvm.exec) (hZ : Z.Warmed39 s.vm) (eT : T.heap = h) {a : Addr} {n : Int32} {f : Nat → Int32} (F : IAr Z h a .int n f) {j : Int32} (hj : ¬ j < 0 ∧ j < n) {g : JFrame} (hg : g.method = m) {rest : List Value} (hs : g.stack = .int j :: .ref a :: rest) (hd : decode c.code g.pc = .ok (.iaload, 1)) {target : State}
    (hr : Steps p.tables e below (T.setTop { g with pc := g.pc + 1, stack := .int (f j.toNatClampNeg) :: rest }) target) : Steps p.tables e below (T.setTop g) target := by
  obtain ⟨cl, A, S, q, H⟩ := F
  exact X.iaload hx (by rw [eT]; exact A.1) (State.isArrayOf_alike hZ.alike A.2.1) A.2.2 (inb_of S hj) (H _ (Nat.lt_of_not_le fun y => inb_of S hj (Or.inr y))) hg hs hd _ hr
theorem sI {Z : State} {h : Heap} (X : Stand p l e R s m args below meth c T locs cells slots) (hx : p.tables.exec = Jvm.exec) (hZ : Z.Warmed39 s.vm) (eT : T.heap = h) {a : Addr} {n : Int32} {f : Nat → Int32} (F : IAr Z h a .int n f) {j : Int32} {x : Int32} (hj : ¬ j < 0 ∧ j < n) {g : JFrame} (hg : g.method = m) {rest : List Value} (hs : g.stack = .int x :: .int j :: .ref a :: rest) (hd : decode c.code g.pc = .ok (.iastore, 1)) :
    ∃ T' h', Stand p l e R s m args below meth c T' (locs ++ [⟨a, j.toNatClampNeg⟩]) cells slots ∧ T'.heap = h' ∧ Wr h h' a j.toNatClampNeg (.int x) ∧ IAr Z h' a .int n (ownU f j.toNatClampNeg x) ∧ ∀ target, Steps p.tables e below (T'.setTop { g with pc := g.pc + 1, stack := rest }) target → Steps p.tables e below (T.setTop g) target := by
  have F' := F
  obtain ⟨cl, A, S, q, H⟩ := F
  obtain ⟨T', h', X', e', W', st'⟩ := stI X hx hZ eT A (inb_of S hj) hg hs hd
  exact ⟨T', h', X', e', W', F'.set W', st'⟩
theorem alen {Z : State} {h : Heap} (X : Stand p l e R s m args below meth c T locs cells slots) (hx : p.tables.exec = Jvm.exec) (hZ : Z.Warmed39 s.vm) (eT : T.heap = h) {a : Addr} {ty : FieldType} {n : Int32} {f : Nat → Int32} (F : IAr Z h a ty n f) {g : JFrame} (hg : g.method = m) {rest : List Value} (hs : g.stack = .ref a :: rest) (hd : decode c.code g.pc = .ok (.arraylength, 1)) {target : State}
    (hr : Steps p.tables e below (T.setTop { g with pc := g.pc + 1, stack := .int n :: rest }) target) : Steps p.tables e below (T.setTop g) target := by
  obtain ⟨cl, A, S, q, H⟩ := F
  refine X.arraylength hx (by rw [eT]; exact A.1) (State.isArrayOf_alike hZ.alike A.2.1) hg hs hd _ ?_
  rw [len_of S q]
  exact hr
end New
end Jvm.RoadKit
namespace Jvm.Pilot.@@N@@
open Jvm Jvm.ClassFile Sem Op Lib Jvm.Free Jvm.Stand Jvm.LawKit Jvm.RoadKit Bundle Jvm.Pilot.@@N@@.Jvm.D
theorem own_rem (x y : Int32) : x - (x / y) * y = x % y := by
  apply Int32.toInt_inj.mp
  have h1 := Int32.le_toInt (x % y)
  have h2 := Int32.toInt_lt (x % y)
  rw [Int32.toInt_sub, Int32.toInt_mul, Int32.toInt_div, Int.bmod_mul_bmod, Int.sub_bmod_bmod, Int.mul_comm (x.toInt.tdiv y.toInt), ← Int.tmod_def, ← Int32.toInt_mod]
  exact Int.bmod_eq_of_le_mul_two (by omega) (by omega)
theorem own_nat (x : Int32) : (x.toBitVec.toNat : Int) = x.toInt % 4294967296 := by
  have h := x.toBitVec.isLt
  show _ = x.toBitVec.toInt % 4294967296
  rw [BitVec.toInt_eq_toNat_cond]; split <;> omega
theorem own_mask (x m : Int32) (k : Nat) (hm : m.toBitVec.toNat = 2 ^ k - 1) : (x &&& m).toBitVec.toNat = x.toBitVec.toNat % 2 ^ k := by
  show (x.toBitVec &&& m.toBitVec).toNat = _
  rw [BitVec.toNat_and, hm, Nat.and_two_pow_sub_one_eq_mod]
theorem own_n (b : Int32) : 1 ≤ ((1 : Int32) + (b &&& 3)).toInt ∧ ((1 : Int32) + (b &&& 3)).toInt ≤ 4 ∧ ((1 : Int32) + (b &&& 3)).toInt = 1 + b.toInt % 4 := by
  have h := c_mask b 3 2 (by decide) (by decide)
  have h2 := c_iadd 1 (b &&& 3)
  have h3 := rng32 ((1 : Int32) + (b &&& 3))
  have e1 : (1 : Int32).toInt = 1 := rfl
  omega
theorem own_nz (b : Int32) : (1 : Int32) + (b &&& 3) ≠ 0 := fun q => by
  have h := own_n b
  rw [q, show (0 : Int32).toInt = 0 from rfl] at h
  omega
theorem own_neg (b : Int32) : ¬ ((1 : Int32) + (b &&& 3)) < 0 := by
  have h := own_n b
  rw [Int32.lt_iff_toInt_lt, show (0 : Int32).toInt = 0 from rfl]; omega
theorem own_pos (b : Int32) : (0 : Int32) < (1 : Int32) + (b &&& 3) := by
  have h := own_n b
  rw [Int32.lt_iff_toInt_lt, show (0 : Int32).toInt = 0 from rfl]; omega
theorem own_cap (b : Int32) : ((1 : Int32) + (b &&& 3)).toNatClampNeg ≤ 4 := by
  have h := own_n b
  show ((1 : Int32) + (b &&& 3)).toInt.toNat ≤ 4
  omega
theorem own_in {b i z : Int32} {k : Nat} (hI : 0 ≤ i.toInt ∧ i.toInt ≤ z.toInt ∧ 0 ≤ b.toInt ∧ b.toInt < z.toInt ∧ z.toInt - i.toInt < ((k + 1 : Nat) : Int)) (h : i < z) : ¬ i < 0 ∧ i < z := by
  refine ⟨?_, h⟩
  simp only [Int32.lt_iff_toInt_lt, show (0 : Int32).toInt = 0 from rfl]
  omega
theorem own_inb {b i z : Int32} {k : Nat} (hI : 0 ≤ i.toInt ∧ i.toInt ≤ z.toInt ∧ 0 ≤ b.toInt ∧ b.toInt < z.toInt ∧ z.toInt - i.toInt < ((k + 1 : Nat) : Int)) : ¬ b < 0 ∧ b < z := by
  simp only [Int32.lt_iff_toInt_lt, show (0 : Int32).toInt = 0 from rfl]
  omega
theorem own_step {b b' i z : Int32} {k : Nat} (hI : 0 ≤ i.toInt ∧ i.toInt ≤ z.toInt ∧ 0 ≤ b.toInt ∧ b.toInt < z.toInt ∧ z.toInt - i.toInt < ((k + 1 : Nat) : Int)) (h : i < z) (hb : b' = b ∨ b' = i) : 0 ≤ (i + 1).toInt ∧ (i + 1).toInt ≤ z.toInt ∧ 0 ≤ b'.toInt ∧ b'.toInt < z.toInt ∧ z.toInt - (i + 1).toInt < (k : Int) := by
  simp only [Int32.lt_iff_toInt_lt] at h
  have h1 := c_iadd i 1
  have e1 : (1 : Int32).toInt = 1 := rfl
  have r1 := rng32 (i + 1)
  have r2 := rng32 z
  rcases hb with rfl | rfl <;> omega
theorem own_init {b z : Int32} (hq : 0 ≤ b.toInt ∧ b.toInt < z.toInt ∧ z.toInt ≤ 4) : 0 ≤ (0 : Int32).toInt ∧ (0 : Int32).toInt ≤ z.toInt ∧ 0 ≤ b.toInt ∧ b.toInt < z.toInt ∧ z.toInt - (0 : Int32).toInt < ((5 : Nat) : Int) := by
  rw [show (0 : Int32).toInt = 0 from rfl]
  omega
theorem d2_0 : decode jdk_29_method_65_code 0 = .ok (.iload_n 0, 1) := by decide +kernel
theorem d2_1 : decode jdk_29_method_65_code 1 = .ok (.iload_n 1, 1) := by decide +kernel
theorem d2_2 : decode jdk_29_method_65_code 2 = .ok (.if_icmp .lt 7, 3) := by decide +kernel
theorem d2_5 : decode jdk_29_method_65_code 5 = .ok (.iload_n 0, 1) := by decide +kernel
theorem d2_6 : decode jdk_29_method_65_code 6 = .ok (.goto 4, 3) := by decide +kernel
theorem d2_9 : decode jdk_29_method_65_code 9 = .ok (.iload_n 1, 1) := by decide +kernel
theorem d2_10 : decode jdk_29_method_65_code 10 = .ok (.ireturn, 1) := by decide +kernel
theorem ef_2 (m : MethodId) (x0 : Int32) (x1 : Int32) : entryFrame m #[(.int x0), (.int x1)] 2 = mkF m 0 #[.val (.int x0), .val (.int x1)] [] := by first | (simp [entryFrame, mkF, argsToLocals, Value.category]; done) | rfl
def f2 (p1 : Int32) (p2 : Int32) : Int32 := (if p1 < p2 then p2 else p1)
def Q2 (Z : State) (p1 : Int32) (p2 : Int32) (h0 : Heap) (n0 : Nat) (v : Option Value) (h : Heap) (L : List Loc) : Prop := v = some (.int (f2 p1 p2)) ∧ Fr n0 L ∧ h = h0
set_option maxRecDepth 65536 in
set_option maxHeartbeats 40000000 in
theorem rm2 (l : Launch) (Z : State) (a0 : Array Value) (hw : ∀ d ∈ tables_1, d.before a0 Z = true) (ws : List Jvm.Cond) (p1 : Int32) (p2 : Int32) (h0 : Heap) (n0 : Nat) (Z0 : n0 ≤ h0.size) :
    MetFree l (⟨"java/lang/Math", "max", "(II)I"⟩ : MethodName) (head1 (Jvm.Cond.code (⟨"java/lang/Math", "max", "(II)I"⟩ : MethodName) jdk_29_method_65_code 2 (some .int) :: ws) ({ frames := 0, cells := 0, slots := 0, locals := 0 } : Room)) (fun a U => a = #[(.int p1), (.int p2)] ∧ Z.Warmed39 U.vm ∧ U.heap = h0) (fun _ _ _ _ _ => True) (fun _ U o U' => ∃ v L, o = .returned v ∧ Q2 Z p1 p2 h0 n0 v U'.heap L ∧ FrameEnd U o U' L ({ frames := 0, cells := 0, slots := 0, locals := 0 } : Room).cells ({ frames := 0, cells := 0, slots := 0, locals := 0 } : Room).slots) := by
  refine MetFree.of_bodySF (Jvm.Free.JP.mathPlain rfl (by decide +kernel)) hisR ?_
  intro p e s m args below meth c s₁ Bd hml0 hP hK
  obtain ⟨rfl, hZ, hh⟩ := hP
  have hx := Bd.exec
  have hby := Bd.bytes
  have hml : c.maxLocals = 2 := hml0
  have hown : s.vm.findClass "java/lang/Math" = some m.cls := findClass_of_methodNamed Bd.named
  have hnm := (name_of_methodNamed Bd.named Bd.method).1
  have X0 : Stand p l e ({ frames := 0, cells := 0, slots := 0, locals := 0 } : Room) s m #[(.int p1), (.int p2)] below meth c s₁ [] 0 0 := Stand.of_body Bd
  have e0 : s₁.heap = h0 := by rw [← hh, Bd.state]; rfl
  have N0 := Fr.nil n0
  have pre0 : ∀ t, Steps p.tables e below (s₁.setTop (mkF m 0 #[.val (.int p1), .val (.int p2)] [])) t → Steps p.tables e below (s₁.setTop (entryFrame m #[(.int p1), (.int p2)] 2)) t := fun t k => castTop (ef_2 m p1 p2) k
  have pre1 : ∀ t, Steps p.tables e below (s₁.setTop (mkF m 2 #[.val (.int p1), .val (.int p2)] [(.int p2), (.int p1)])) t → Steps p.tables e below (s₁.setTop (entryFrame m #[(.int p1), (.int p2)] 2)) t := by
    intro t k
    refine pre0 t ?_
    show Steps p.tables e below (s₁.setTop (mkF m 0 #[.val (.int p1), .val (.int p2)] [])) _
    refine XS.iloadN X0.here hx rfl (hb hby d2_0) rfl ?_
    show Steps p.tables e below (s₁.setTop (mkF m 1 #[.val (.int p1), .val (.int p2)] [(.int p1)])) _
    refine XS.iloadN X0.here hx rfl (hb hby d2_1) rfl ?_
    exact k
  by_cases hc2 : p1 < p2
  · have eq2 : (f2 p1 p2) = p2 := by unfold f2; simp only [if_pos hc2]
    obtain ⟨fs, hr, hrun, hended, hW, hsame⟩ := X0.leave (v := some (.int p2)) (fun h => by rw [Bd.returns] at h; cases h)
    refine ⟨_, _, pre1 _ ?_, hrun, hended, _, _, rfl, ?_, ⟨_, rfl⟩, hW, hsame.mono (by decide) (by decide)⟩
    · show Steps p.tables e below (s₁.setTop (mkF m 2 #[.val (.int p1), .val (.int p2)] [(.int p2), (.int p1)])) _
      refine XS.icmpYes X0.here hx rfl (pc0 := 2) (pc' := 9) rfl (hb hby d2_2) rfl (tlt hc2).1 (by decide) (by decide) ?_
      show Steps p.tables e below (s₁.setTop (mkF m 9 #[.val (.int p1), .val (.int p2)] [])) _
      refine XS.iloadN X0.here hx rfl (hb hby d2_9) rfl ?_
      show Steps p.tables e below (s₁.setTop (mkF m 10 #[.val (.int p1), .val (.int p2)] [(.int p2)])) _
      exact retI X0 hx Bd.returns (hb hby d2_10) hr
    · show Q2 Z p1 p2 h0 n0 _ s₁.heap _
      rw [e0]
      exact ⟨by rw [eq2], N0, rfl⟩
  · have eq3 : (f2 p1 p2) = p1 := by unfold f2; simp only [if_neg hc2]
    obtain ⟨fs, hr, hrun, hended, hW, hsame⟩ := X0.leave (v := some (.int p1)) (fun h => by rw [Bd.returns] at h; cases h)
    refine ⟨_, _, pre1 _ ?_, hrun, hended, _, _, rfl, ?_, ⟨_, rfl⟩, hW, hsame.mono (by decide) (by decide)⟩
    · show Steps p.tables e below (s₁.setTop (mkF m 2 #[.val (.int p1), .val (.int p2)] [(.int p2), (.int p1)])) _
      refine XS.icmpNo X0.here hx rfl (hb hby d2_2) rfl (flt hc2).1 ?_
      show Steps p.tables e below (s₁.setTop (mkF m 5 #[.val (.int p1), .val (.int p2)] [])) _
      refine XS.iloadN X0.here hx rfl (hb hby d2_5) rfl ?_
      show Steps p.tables e below (s₁.setTop (mkF m 6 #[.val (.int p1), .val (.int p2)] [(.int p1)])) _
      refine XS.goto X0.here hx rfl (pc0 := 6) (pc' := 10) rfl (hb hby d2_6) (by decide) (by decide) ?_
      show Steps p.tables e below (s₁.setTop (mkF m 10 #[.val (.int p1), .val (.int p2)] [(.int p1)])) _
      exact retI X0 hx Bd.returns (hb hby d2_10) hr
    · show Q2 Z p1 p2 h0 n0 _ s₁.heap _
      rw [e0]
      exact ⟨by rw [eq3], N0, rfl⟩
theorem pd_0 : parseMethodDescriptor "(II)I" = some ⟨[.int, .int], some .int⟩ := by decide +kernel
theorem pn_0 : plainName "com/example/podflow/podflow/simulation/SamplingVotingPolicyWinnerPinLaw" = true := by first | (simp [plainName, overriddenIn]; done) | decide +kernel
theorem d1_0 : decode method_3_code 0 = .ok (.iload_n 2, 1) := by decide +kernel
theorem d1_1 : decode method_3_code 1 = .ok (.istore 6, 2) := by decide +kernel
theorem d1_3 : decode method_3_code 3 = .ok (.iload_n 0, 1) := by decide +kernel
theorem d1_4 : decode method_3_code 4 = .ok (.iconst 1, 1) := by decide +kernel
theorem d1_5 : decode method_3_code 5 = .ok (.if_icmp .le 11, 3) := by decide +kernel
theorem d1_8 : decode method_3_code 8 = .ok (.iload 6, 2) := by decide +kernel
theorem d1_10 : decode method_3_code 10 = .ok (.iload_n 3, 1) := by decide +kernel
theorem d1_11 : decode method_3_code 11 = .ok (.invokestatic 20, 3) := by decide +kernel
theorem d1_14 : decode method_3_code 14 = .ok (.istore 6, 2) := by decide +kernel
theorem d1_16 : decode method_3_code 16 = .ok (.iload_n 0, 1) := by decide +kernel
theorem d1_17 : decode method_3_code 17 = .ok (.iconst 2, 1) := by decide +kernel
theorem d1_18 : decode method_3_code 18 = .ok (.if_icmp .le 12, 3) := by decide +kernel
theorem d1_21 : decode method_3_code 21 = .ok (.iload 6, 2) := by decide +kernel
theorem d1_23 : decode method_3_code 23 = .ok (.iload 4, 2) := by decide +kernel
theorem d1_25 : decode method_3_code 25 = .ok (.invokestatic 20, 3) := by decide +kernel
theorem d1_28 : decode method_3_code 28 = .ok (.istore 6, 2) := by decide +kernel
theorem d1_30 : decode method_3_code 30 = .ok (.iload_n 0, 1) := by decide +kernel
theorem d1_31 : decode method_3_code 31 = .ok (.iconst 3, 1) := by decide +kernel
theorem d1_32 : decode method_3_code 32 = .ok (.if_icmp .le 12, 3) := by decide +kernel
theorem d1_35 : decode method_3_code 35 = .ok (.iload 6, 2) := by decide +kernel
theorem d1_37 : decode method_3_code 37 = .ok (.iload 5, 2) := by decide +kernel
theorem d1_39 : decode method_3_code 39 = .ok (.invokestatic 20, 3) := by decide +kernel
theorem d1_42 : decode method_3_code 42 = .ok (.istore 6, 2) := by decide +kernel
theorem d1_44 : decode method_3_code 44 = .ok (.iload_n 1, 1) := by decide +kernel
theorem d1_45 : decode method_3_code 45 = .ok (.ifCond .ne 7, 3) := by decide +kernel
theorem d1_48 : decode method_3_code 48 = .ok (.iload_n 2, 1) := by decide +kernel
theorem d1_49 : decode method_3_code 49 = .ok (.goto 24, 3) := by decide +kernel
theorem d1_52 : decode method_3_code 52 = .ok (.iload_n 1, 1) := by decide +kernel
theorem d1_53 : decode method_3_code 53 = .ok (.iconst 1, 1) := by decide +kernel
theorem d1_54 : decode method_3_code 54 = .ok (.if_icmp .ne 7, 3) := by decide +kernel
theorem d1_57 : decode method_3_code 57 = .ok (.iload_n 3, 1) := by decide +kernel
theorem d1_58 : decode method_3_code 58 = .ok (.goto 15, 3) := by decide +kernel
theorem d1_61 : decode method_3_code 61 = .ok (.iload_n 1, 1) := by decide +kernel
theorem d1_62 : decode method_3_code 62 = .ok (.iconst 2, 1) := by decide +kernel
theorem d1_63 : decode method_3_code 63 = .ok (.if_icmp .ne 8, 3) := by decide +kernel
theorem d1_66 : decode method_3_code 66 = .ok (.iload 4, 2) := by decide +kernel
theorem d1_68 : decode method_3_code 68 = .ok (.goto 5, 3) := by decide +kernel
theorem d1_71 : decode method_3_code 71 = .ok (.iload 5, 2) := by decide +kernel
theorem d1_73 : decode method_3_code 73 = .ok (.istore 7, 2) := by decide +kernel
theorem d1_75 : decode method_3_code 75 = .ok (.iload 7, 2) := by decide +kernel
theorem d1_77 : decode method_3_code 77 = .ok (.iload 6, 2) := by decide +kernel
theorem d1_79 : decode method_3_code 79 = .ok (.if_icmp .ne 5, 3) := by decide +kernel
theorem d1_82 : decode method_3_code 82 = .ok (.iload_n 1, 1) := by decide +kernel
theorem d1_83 : decode method_3_code 83 = .ok (.ireturn, 1) := by decide +kernel
theorem d1_84 : decode method_3_code 84 = .ok (.iload_n 2, 1) := by decide +kernel
theorem d1_85 : decode method_3_code 85 = .ok (.iload 6, 2) := by decide +kernel
theorem d1_87 : decode method_3_code 87 = .ok (.if_icmp .ne 5, 3) := by decide +kernel
theorem d1_90 : decode method_3_code 90 = .ok (.iconst 0, 1) := by decide +kernel
theorem d1_91 : decode method_3_code 91 = .ok (.ireturn, 1) := by decide +kernel
theorem d1_92 : decode method_3_code 92 = .ok (.iload_n 0, 1) := by decide +kernel
theorem d1_93 : decode method_3_code 93 = .ok (.iconst 1, 1) := by decide +kernel
theorem d1_94 : decode method_3_code 94 = .ok (.if_icmp .le 11, 3) := by decide +kernel
theorem d1_97 : decode method_3_code 97 = .ok (.iload_n 3, 1) := by decide +kernel
theorem d1_98 : decode method_3_code 98 = .ok (.iload 6, 2) := by decide +kernel
theorem d1_100 : decode method_3_code 100 = .ok (.if_icmp .ne 5, 3) := by decide +kernel
theorem d1_103 : decode method_3_code 103 = .ok (.iconst 1, 1) := by decide +kernel
theorem d1_104 : decode method_3_code 104 = .ok (.ireturn, 1) := by decide +kernel
theorem d1_105 : decode method_3_code 105 = .ok (.iload_n 0, 1) := by decide +kernel
theorem d1_106 : decode method_3_code 106 = .ok (.iconst 2, 1) := by decide +kernel
theorem d1_107 : decode method_3_code 107 = .ok (.if_icmp .le 12, 3) := by decide +kernel
theorem d1_110 : decode method_3_code 110 = .ok (.iload 4, 2) := by decide +kernel
theorem d1_112 : decode method_3_code 112 = .ok (.iload 6, 2) := by decide +kernel
theorem d1_114 : decode method_3_code 114 = .ok (.if_icmp .ne 5, 3) := by decide +kernel
theorem d1_117 : decode method_3_code 117 = .ok (.iconst 2, 1) := by decide +kernel
theorem d1_118 : decode method_3_code 118 = .ok (.ireturn, 1) := by decide +kernel
theorem d1_119 : decode method_3_code 119 = .ok (.iload_n 0, 1) := by decide +kernel
theorem d1_120 : decode method_3_code 120 = .ok (.iconst 1, 1) := by decide +kernel
theorem d1_121 : decode method_3_code 121 = .ok (.isub, 1) := by decide +kernel
theorem d1_122 : decode method_3_code 122 = .ok (.ireturn, 1) := by decide +kernel
theorem ef_1 (m : MethodId) (x0 : Int32) (x1 : Int32) (x2 : Int32) (x3 : Int32) (x4 : Int32) (x5 : Int32) : entryFrame m #[(.int x0), (.int x1), (.int x2), (.int x3), (.int x4), (.int x5)] 8 = mkF m 0 #[.val (.int x0), .val (.int x1), .val (.int x2), .val (.int x3), .val (.int x4), .val (.int x5), .unset, .unset] [] := by first | (simp [entryFrame, mkF, argsToLocals, Value.category]; done) | rfl
def f1_l6_16 (p1 : Int32) (p2 : Int32) (p3 : Int32) (p4 : Int32) (p5 : Int32) (p6 : Int32) : Int32 := (if (1 : Int32) < p1 then (f2 p3 p4) else p3)
def f1_l6_30 (p1 : Int32) (p2 : Int32) (p3 : Int32) (p4 : Int32) (p5 : Int32) (p6 : Int32) : Int32 := (if (2 : Int32) < p1 then (f2 (f1_l6_16 p1 p2 p3 p4 p5 p6) p5) else (f1_l6_16 p1 p2 p3 p4 p5 p6))
def f1_l6_44 (p1 : Int32) (p2 : Int32) (p3 : Int32) (p4 : Int32) (p5 : Int32) (p6 : Int32) : Int32 := (if (3 : Int32) < p1 then (f2 (f1_l6_30 p1 p2 p3 p4 p5 p6) p6) else (f1_l6_30 p1 p2 p3 p4 p5 p6))
def f1_s0_73 (p1 : Int32) (p2 : Int32) (p3 : Int32) (p4 : Int32) (p5 : Int32) (p6 : Int32) : Int32 := (if p2 = (0 : Int32) then p3 else (if p2 = (1 : Int32) then p4 else (if p2 = (2 : Int32) then p5 else p6)))
def f1 (p1 : Int32) (p2 : Int32) (p3 : Int32) (p4 : Int32) (p5 : Int32) (p6 : Int32) : Int32 := (if (f1_s0_73 p1 p2 p3 p4 p5 p6) = (f1_l6_44 p1 p2 p3 p4 p5 p6) then p2 else (if p3 = (f1_l6_44 p1 p2 p3 p4 p5 p6) then (0 : Int32) else (if (1 : Int32) < p1 then (if p4 = (f1_l6_44 p1 p2 p3 p4 p5 p6) then (1 : Int32) else (if (2 : Int32) < p1 then (if p5 = (f1_l6_44 p1 p2 p3 p4 p5 p6) then (2 : Int32) else (p1 - (1 : Int32))) else (p1 - (1 : Int32)))) else (if (2 : Int32) < p1 then (if p5 = (f1_l6_44 p1 p2 p3 p4 p5 p6) then (2 : Int32) else (p1 - (1 : Int32))) else (p1 - (1 : Int32))))))
def Q1 (Z : State) (p1 : Int32) (p2 : Int32) (p3 : Int32) (p4 : Int32) (p5 : Int32) (p6 : Int32) (h0 : Heap) (n0 : Nat) (v : Option Value) (h : Heap) (L : List Loc) : Prop := v = some (.int (f1 p1 p2 p3 p4 p5 p6)) ∧ Fr n0 L ∧ h = h0
set_option maxRecDepth 65536 in
set_option maxHeartbeats 40000000 in
theorem rm1 (l : Launch) (Z : State) (a0 : Array Value) (hw : ∀ d ∈ tables_1, d.before a0 Z = true) (ws : List Jvm.Cond) (p1 : Int32) (p2 : Int32) (p3 : Int32) (p4 : Int32) (p5 : Int32) (p6 : Int32) (h0 : Heap) (n0 : Nat) (Z0 : n0 ≤ h0.size) :
    MetFree l (⟨"com/example/podflow/podflow/simulation/SamplingVotingPolicyWinnerPinLaw", "reference", "(IIIIII)I"⟩ : MethodName) (head1 (Jvm.Cond.code (⟨"com/example/podflow/podflow/simulation/SamplingVotingPolicyWinnerPinLaw", "reference", "(IIIIII)I"⟩ : MethodName) method_3_code 8 (some .int) :: ws) ({ frames := 1, cells := 0, slots := 0, locals := 13 } : Room)) (fun a U => a = #[(.int p1), (.int p2), (.int p3), (.int p4), (.int p5), (.int p6)] ∧ Z.Warmed39 U.vm ∧ U.heap = h0) (fun _ _ _ _ _ => True) (fun _ U o U' => ∃ v L, o = .returned v ∧ Q1 Z p1 p2 p3 p4 p5 p6 h0 n0 v U'.heap L ∧ FrameEnd U o U' L ({ frames := 1, cells := 0, slots := 0, locals := 13 } : Room).cells ({ frames := 1, cells := 0, slots := 0, locals := 13 } : Room).slots) := by
  refine MetFree.of_bodySF (plainFor_of_name pn_0) hisR ?_
  intro p e s m args below meth c s₁ Bd hml0 hP hK
  obtain ⟨rfl, hZ, hh⟩ := hP
  have hx := Bd.exec
  have hby := Bd.bytes
  have hml : c.maxLocals = 8 := hml0
  have hown : s.vm.findClass "com/example/podflow/podflow/simulation/SamplingVotingPolicyWinnerPinLaw" = some m.cls := findClass_of_methodNamed Bd.named
  have hnm := (name_of_methodNamed Bd.named Bd.method).1
  have X0 : Stand p l e ({ frames := 1, cells := 0, slots := 0, locals := 13 } : Room) s m #[(.int p1), (.int p2), (.int p3), (.int p4), (.int p5), (.int p6)] below meth c s₁ [] 0 0 := Stand.of_body Bd
  have e0 : s₁.heap = h0 := by rw [← hh, Bd.state]; rfl
  have N0 := Fr.nil n0
  have pre0 : ∀ t, Steps p.tables e below (s₁.setTop (mkF m 0 #[.val (.int p1), .val (.int p2), .val (.int p3), .val (.int p4), .val (.int p5), .val (.int p6), .unset, .unset] [])) t → Steps p.tables e below (s₁.setTop (entryFrame m #[(.int p1), (.int p2), (.int p3), (.int p4), (.int p5), (.int p6)] 8)) t := fun t k => castTop (ef_1 m p1 p2 p3 p4 p5 p6) k
  have pre1 : ∀ t, Steps p.tables e below (s₁.setTop (mkF m 5 #[.val (.int p1), .val (.int p2), .val (.int p3), .val (.int p4), .val (.int p5), .val (.int p6), .val (.int p3), .unset] [(.int (1 : Int32)), (.int p1)])) t → Steps p.tables e below (s₁.setTop (entryFrame m #[(.int p1), (.int p2), (.int p3), (.int p4), (.int p5), (.int p6)] 8)) t := by
    intro t k
    refine pre0 t ?_
    show Steps p.tables e below (s₁.setTop (mkF m 0 #[.val (.int p1), .val (.int p2), .val (.int p3), .val (.int p4), .val (.int p5), .val (.int p6), .unset, .unset] [])) _
    refine XS.iloadN X0.here hx rfl (hb hby d1_0) rfl ?_
    show Steps p.tables e below (s₁.setTop (mkF m 1 #[.val (.int p1), .val (.int p2), .val (.int p3), .val (.int p4), .val (.int p5), .val (.int p6), .unset, .unset] [(.int p3)])) _
    refine XS.istore X0.here hx rfl (hb hby d1_1) rfl (l' := #[.val (.int p1), .val (.int p2), .val (.int p3), .val (.int p4), .val (.int p5), .val (.int p6), .val (.int p3), .unset]) rfl ?_
    show Steps p.tables e below (s₁.setTop (mkF m 3 #[.val (.int p1), .val (.int p2), .val (.int p3), .val (.int p4), .val (.int p5), .val (.int p6), .val (.int p3), .unset] [])) _
    refine XS.iloadN X0.here hx rfl (hb hby d1_3) rfl ?_
    show Steps p.tables e below (s₁.setTop (mkF m 4 #[.val (.int p1), .val (.int p2), .val (.int p3), .val (.int p4), .val (.int p5), .val (.int p6), .val (.int p3), .unset] [(.int p1)])) _
    refine XS.iconst X0.here hx rfl (hb hby d1_4) ?_
    exact k
  obtain ⟨T8, Lmpre2, X8, e8, N8, pre2⟩ : ∃ (T' : State) (L' : List Loc), Stand p l e ({ frames := 1, cells := 0, slots := 0, locals := 13 } : Room) s m #[(.int p1), (.int p2), (.int p3), (.int p4), (.int p5), (.int p6)] below meth c T' L' 0 0 ∧ T'.heap = h0 ∧ Fr n0 L' ∧ ∀ t, Steps p.tables e below (T'.setTop (mkF m 16 #[.val (.int p1), .val (.int p2), .val (.int p3), .val (.int p4), .val (.int p5), .val (.int p6), .val (.int (f1_l6_16 p1 p2 p3 p4 p5 p6)), .unset] [])) t → Steps p.tables e below (s₁.setTop (entryFrame m #[(.int p1), (.int p2), (.int p3), (.int p4), (.int p5), (.int p6)] 8)) t := by
    by_cases hc5 : (1 : Int32) < p1
    · obtain ⟨_, _, ⟨T7, L7, k7, n7⟩, -, X7, ⟨Lc7, hQ7, l7, y7, z7⟩, st7⟩ := Jvm.LawKit.callS X0 hx (y := (⟨"java/lang/Math", "max", "(II)I"⟩ : MethodName)) hown (mvT hZ (hw _ (List.mem_of_getElem? (i := 6) rfl))) (mvT hZ (hw _ (List.mem_of_getElem? (i := 7) rfl))) (mvT hZ (hw _ (List.mem_of_getElem? (i := 8) rfl))) (mvT hZ (hw _ (List.mem_of_getElem? (i := 9) rfl))) (by decide) (backOf (W := 0) (rm2 l Z a0 hw [] p3 p4 h0 n0 Z0 ) hZ (hw _ (List.mem_of_getElem? (i := 9) rfl)) (hw _ (List.mem_of_getElem? (i := 8) rfl)) (by decide) (by decide)) (g := (mkF m 11 #[.val (.int p1), .val (.int p2), .val (.int p3), .val (.int p4), .val (.int p5), .val (.int p6), .val (.int p3), .unset] [(.int p4), (.int p3)])) rfl (by rw [hml]; rfl) (argsL := [(.int p3), (.int p4)]) (rest := []) (lenOf pd_0 rfl) rfl (by show 2 * 0 + _ ≤ _; exact Nat.le_of_eq rfl) (hb hby d1_11) (fun _ _ => ⟨rfl, e0, (by decide : 0 + 0 ≤ _), (by decide : 0 + 0 ≤ _)⟩)
      dsimp only [Pt.U, Pt.locs, Pt.cells, Pt.slots] at X7 l7 y7 z7 st7 hQ7
      subst l7 y7 z7
      obtain ⟨rfl, N7q, e7⟩ := hQ7
      have N7 := Fr.app N0 N7q
      have eq3 := (show (f1_l6_16 p1 p2 p3 p4 p5 p6) = (f2 p3 p4) from by unfold f1_l6_16; simp only [if_pos hc5])
      refine ⟨T7, _, X7, e7, N7, fun t k => ?_⟩
      try rw [eq3] at k
      refine pre1 t ?_
      show Steps p.tables e below (s₁.setTop (mkF m 5 #[.val (.int p1), .val (.int p2), .val (.int p3), .val (.int p4), .val (.int p5), .val (.int p6), .val (.int p3), .unset] [(.int (1 : Int32)), (.int p1)])) _
      refine XS.icmpNo X0.here hx rfl (hb hby d1_5) rfl (tlt hc5).2.2.2 ?_
      show Steps p.tables e below (s₁.setTop (mkF m 8 #[.val (.int p1), .val (.int p2), .val (.int p3), .val (.int p4), .val (.int p5), .val (.int p6), .val (.int p3), .unset] [])) _
      refine XS.iload X0.here hx rfl (hb hby d1_8) rfl ?_
      show Steps p.tables e below (s₁.setTop (mkF m 10 #[.val (.int p1), .val (.int p2), .val (.int p3), .val (.int p4), .val (.int p5), .val (.int p6), .val (.int p3), .unset] [(.int p3)])) _
      refine XS.iloadN X0.here hx rfl (hb hby d1_10) rfl ?_
      show Steps p.tables e below (s₁.setTop (mkF m 11 #[.val (.int p1), .val (.int p2), .val (.int p3), .val (.int p4), .val (.int p5), .val (.int p6), .val (.int p3), .unset] [(.int p4), (.int p3)])) _
      refine st7 _ ?_
      show Steps p.tables e below (T7.setTop (mkF m 14 #[.val (.int p1), .val (.int p2), .val (.int p3), .val (.int p4), .val (.int p5), .val (.int p6), .val (.int p3), .unset] [(.int (f2 p3 p4))])) _
      refine XS.istore X7.here hx rfl (hb hby d1_14) rfl (l' := #[.val (.int p1), .val (.int p2), .val (.int p3), .val (.int p4), .val (.int p5), .val (.int p6), .val (.int (f2 p3 p4)), .unset]) rfl ?_
      exact k
    · have eq4 := (show (f1_l6_16 p1 p2 p3 p4 p5 p6) = p3 from by unfold f1_l6_16; simp only [if_neg hc5])
      refine ⟨s₁, _, X0, e0, N0, fun t k => ?_⟩
      try rw [eq4] at k
      refine pre1 t ?_
      show Steps p.tables e below (s₁.setTop (mkF m 5 #[.val (.int p1), .val (.int p2), .val (.int p3), .val (.int p4), .val (.int p5), .val (.int p6), .val (.int p3), .unset] [(.int (1 : Int32)), (.int p1)])) _
      refine XS.icmpYes X0.here hx rfl (pc0 := 5) (pc' := 16) rfl (hb hby d1_5) rfl (flt hc5).2.2.2 (by decide) (by decide) ?_
      exact k
  have pre5 : ∀ t, Steps p.tables e below (T8.setTop (mkF m 18 #[.val (.int p1), .val (.int p2), .val (.int p3), .val (.int p4), .val (.int p5), .val (.int p6), .val (.int (f1_l6_16 p1 p2 p3 p4 p5 p6)), .unset] [(.int (2 : Int32)), (.int p1)])) t → Steps p.tables e below (s₁.setTop (entryFrame m #[(.int p1), (.int p2), (.int p3), (.int p4), (.int p5), (.int p6)] 8)) t := by
    intro t k
    refine pre2 t ?_
    show Steps p.tables e below (T8.setTop (mkF m 16 #[.val (.int p1), .val (.int p2), .val (.int p3), .val (.int p4), .val (.int p5), .val (.int p6), .val (.int (f1_l6_16 p1 p2 p3 p4 p5 p6)), .unset] [])) _
    refine XS.iloadN X8.here hx rfl (hb hby d1_16) rfl ?_
    show Steps p.tables e below (T8.setTop (mkF m 17 #[.val (.int p1), .val (.int p2), .val (.int p3), .val (.int p4), .val (.int p5), .val (.int p6), .val (.int (f1_l6_16 p1 p2 p3 p4 p5 p6)), .unset] [(.int p1)])) _
    refine XS.iconst X8.here hx rfl (hb hby d1_17) ?_
    exact k
  obtain ⟨T10, Lmpre6, X10, e10, N10, pre6⟩ : ∃ (T' : State) (L' : List Loc), Stand p l e ({ frames := 1, cells := 0, slots := 0, locals := 13 } : Room) s m #[(.int p1), (.int p2), (.int p3), (.int p4), (.int p5), (.int p6)] below meth c T' L' 0 0 ∧ T'.heap = h0 ∧ Fr n0 L' ∧ ∀ t, Steps p.tables e below (T'.setTop (mkF m 30 #[.val (.int p1), .val (.int p2), .val (.int p3), .val (.int p4), .val (.int p5), .val (.int p6), .val (.int (f1_l6_30 p1 p2 p3 p4 p5 p6)), .unset] [])) t → Steps p.tables e below (s₁.setTop (entryFrame m #[(.int p1), (.int p2), (.int p3), (.int p4), (.int p5), (.int p6)] 8)) t := by
    by_cases hc18 : (2 : Int32) < p1
    · obtain ⟨_, _, ⟨T9, L9, k9, n9⟩, -, X9, ⟨Lc9, hQ9, l9, y9, z9⟩, st9⟩ := Jvm.LawKit.callS X8 hx (y := (⟨"java/lang/Math", "max", "(II)I"⟩ : MethodName)) hown (mvT hZ (hw _ (List.mem_of_getElem? (i := 6) rfl))) (mvT hZ (hw _ (List.mem_of_getElem? (i := 7) rfl))) (mvT hZ (hw _ (List.mem_of_getElem? (i := 8) rfl))) (mvT hZ (hw _ (List.mem_of_getElem? (i := 9) rfl))) (by decide) (backOf (W := 0) (rm2 l Z a0 hw [] (f1_l6_16 p1 p2 p3 p4 p5 p6) p5 h0 n0 Z0 ) hZ (hw _ (List.mem_of_getElem? (i := 9) rfl)) (hw _ (List.mem_of_getElem? (i := 8) rfl)) (by decide) (by decide)) (g := (mkF m 25 #[.val (.int p1), .val (.int p2), .val (.int p3), .val (.int p4), .val (.int p5), .val (.int p6), .val (.int (f1_l6_16 p1 p2 p3 p4 p5 p6)), .unset] [(.int p5), (.int (f1_l6_16 p1 p2 p3 p4 p5 p6))])) rfl (by rw [hml]; rfl) (argsL := [(.int (f1_l6_16 p1 p2 p3 p4 p5 p6)), (.int p5)]) (rest := []) (lenOf pd_0 rfl) rfl (by show 2 * 0 + _ ≤ _; exact Nat.le_of_eq rfl) (hb hby d1_25) (fun _ _ => ⟨rfl, e8, (by decide : 0 + 0 ≤ _), (by decide : 0 + 0 ≤ _)⟩)
      dsimp only [Pt.U, Pt.locs, Pt.cells, Pt.slots] at X9 l9 y9 z9 st9 hQ9
      subst l9 y9 z9
      obtain ⟨rfl, N9q, e9⟩ := hQ9
      have N9 := Fr.app N8 N9q
      have eq7 := (show (f1_l6_30 p1 p2 p3 p4 p5 p6) = (f2 (f1_l6_16 p1 p2 p3 p4 p5 p6) p5) from by unfold f1_l6_30; simp only [if_pos hc18])
      refine ⟨T9, _, X9, e9, N9, fun t k => ?_⟩
      try rw [eq7] at k
      refine pre5 t ?_
      show Steps p.tables e below (T8.setTop (mkF m 18 #[.val (.int p1), .val (.int p2), .val (.int p3), .val (.int p4), .val (.int p5), .val (.int p6), .val (.int (f1_l6_16 p1 p2 p3 p4 p5 p6)), .unset] [(.int (2 : Int32)), (.int p1)])) _
      refine XS.icmpNo X8.here hx rfl (hb hby d1_18) rfl (tlt hc18).2.2.2 ?_
      show Steps p.tables e below (T8.setTop (mkF m 21 #[.val (.int p1), .val (.int p2), .val (.int p3), .val (.int p4), .val (.int p5), .val (.int p6), .val (.int (f1_l6_16 p1 p2 p3 p4 p5 p6)), .unset] [])) _
      refine XS.iload X8.here hx rfl (hb hby d1_21) rfl ?_
      show Steps p.tables e below (T8.setTop (mkF m 23 #[.val (.int p1), .val (.int p2), .val (.int p3), .val (.int p4), .val (.int p5), .val (.int p6), .val (.int (f1_l6_16 p1 p2 p3 p4 p5 p6)), .unset] [(.int (f1_l6_16 p1 p2 p3 p4 p5 p6))])) _
      refine XS.iload X8.here hx rfl (hb hby d1_23) rfl ?_
      show Steps p.tables e below (T8.setTop (mkF m 25 #[.val (.int p1), .val (.int p2), .val (.int p3), .val (.int p4), .val (.int p5), .val (.int p6), .val (.int (f1_l6_16 p1 p2 p3 p4 p5 p6)), .unset] [(.int p5), (.int (f1_l6_16 p1 p2 p3 p4 p5 p6))])) _
      refine st9 _ ?_
      show Steps p.tables e below (T9.setTop (mkF m 28 #[.val (.int p1), .val (.int p2), .val (.int p3), .val (.int p4), .val (.int p5), .val (.int p6), .val (.int (f1_l6_16 p1 p2 p3 p4 p5 p6)), .unset] [(.int (f2 (f1_l6_16 p1 p2 p3 p4 p5 p6) p5))])) _
      refine XS.istore X9.here hx rfl (hb hby d1_28) rfl (l' := #[.val (.int p1), .val (.int p2), .val (.int p3), .val (.int p4), .val (.int p5), .val (.int p6), .val (.int (f2 (f1_l6_16 p1 p2 p3 p4 p5 p6) p5)), .unset]) rfl ?_
      exact k
    · have eq8 := (show (f1_l6_30 p1 p2 p3 p4 p5 p6) = (f1_l6_16 p1 p2 p3 p4 p5 p6) from by unfold f1_l6_30; simp only [if_neg hc18])
      refine ⟨T8, _, X8, e8, N8, fun t k => ?_⟩
      try rw [eq8] at k
      refine pre5 t ?_
      show Steps p.tables e below (T8.setTop (mkF m 18 #[.val (.int p1), .val (.int p2), .val (.int p3), .val (.int p4), .val (.int p5), .val (.int p6), .val (.int (f1_l6_16 p1 p2 p3 p4 p5 p6)), .unset] [(.int (2 : Int32)), (.int p1)])) _
      refine XS.icmpYes X8.here hx rfl (pc0 := 18) (pc' := 30) rfl (hb hby d1_18) rfl (flt hc18).2.2.2 (by decide) (by decide) ?_
      exact k
  have pre9 : ∀ t, Steps p.tables e below (T10.setTop (mkF m 32 #[.val (.int p1), .val (.int p2), .val (.int p3), .val (.int p4), .val (.int p5), .val (.int p6), .val (.int (f1_l6_30 p1 p2 p3 p4 p5 p6)), .unset] [(.int (3 : Int32)), (.int p1)])) t → Steps p.tables e below (s₁.setTop (entryFrame m #[(.int p1), (.int p2), (.int p3), (.int p4), (.int p5), (.int p6)] 8)) t := by
    intro t k
    refine pre6 t ?_
    show Steps p.tables e below (T10.setTop (mkF m 30 #[.val (.int p1), .val (.int p2), .val (.int p3), .val (.int p4), .val (.int p5), .val (.int p6), .val (.int (f1_l6_30 p1 p2 p3 p4 p5 p6)), .unset] [])) _
    refine XS.iloadN X10.here hx rfl (hb hby d1_30) rfl ?_
    show Steps p.tables e below (T10.setTop (mkF m 31 #[.val (.int p1), .val (.int p2), .val (.int p3), .val (.int p4), .val (.int p5), .val (.int p6), .val (.int (f1_l6_30 p1 p2 p3 p4 p5 p6)), .unset] [(.int p1)])) _
    refine XS.iconst X10.here hx rfl (hb hby d1_31) ?_
    exact k
  obtain ⟨T12, Lmpre10, X12, e12, N12, pre10⟩ : ∃ (T' : State) (L' : List Loc), Stand p l e ({ frames := 1, cells := 0, slots := 0, locals := 13 } : Room) s m #[(.int p1), (.int p2), (.int p3), (.int p4), (.int p5), (.int p6)] below meth c T' L' 0 0 ∧ T'.heap = h0 ∧ Fr n0 L' ∧ ∀ t, Steps p.tables e below (T'.setTop (mkF m 44 #[.val (.int p1), .val (.int p2), .val (.int p3), .val (.int p4), .val (.int p5), .val (.int p6), .val (.int (f1_l6_44 p1 p2 p3 p4 p5 p6)), .unset] [])) t → Steps p.tables e below (s₁.setTop (entryFrame m #[(.int p1), (.int p2), (.int p3), (.int p4), (.int p5), (.int p6)] 8)) t := by
    by_cases hc32 : (3 : Int32) < p1
    · obtain ⟨_, _, ⟨T11, L11, k11, n11⟩, -, X11, ⟨Lc11, hQ11, l11, y11, z11⟩, st11⟩ := Jvm.LawKit.callS X10 hx (y := (⟨"java/lang/Math", "max", "(II)I"⟩ : MethodName)) hown (mvT hZ (hw _ (List.mem_of_getElem? (i := 6) rfl))) (mvT hZ (hw _ (List.mem_of_getElem? (i := 7) rfl))) (mvT hZ (hw _ (List.mem_of_getElem? (i := 8) rfl))) (mvT hZ (hw _ (List.mem_of_getElem? (i := 9) rfl))) (by decide) (backOf (W := 0) (rm2 l Z a0 hw [] (f1_l6_30 p1 p2 p3 p4 p5 p6) p6 h0 n0 Z0 ) hZ (hw _ (List.mem_of_getElem? (i := 9) rfl)) (hw _ (List.mem_of_getElem? (i := 8) rfl)) (by decide) (by decide)) (g := (mkF m 39 #[.val (.int p1), .val (.int p2), .val (.int p3), .val (.int p4), .val (.int p5), .val (.int p6), .val (.int (f1_l6_30 p1 p2 p3 p4 p5 p6)), .unset] [(.int p6), (.int (f1_l6_30 p1 p2 p3 p4 p5 p6))])) rfl (by rw [hml]; rfl) (argsL := [(.int (f1_l6_30 p1 p2 p3 p4 p5 p6)), (.int p6)]) (rest := []) (lenOf pd_0 rfl) rfl (by show 2 * 0 + _ ≤ _; exact Nat.le_of_eq rfl) (hb hby d1_39) (fun _ _ => ⟨rfl, e10, (by decide : 0 + 0 ≤ _), (by decide : 0 + 0 ≤ _)⟩)
      dsimp only [Pt.U, Pt.locs, Pt.cells, Pt.slots] at X11 l11 y11 z11 st11 hQ11
      subst l11 y11 z11
      obtain ⟨rfl, N11q, e11⟩ := hQ11
      have N11 := Fr.app N10 N11q
      have eq11 := (show (f1_l6_44 p1 p2 p3 p4 p5 p6) = (f2 (f1_l6_30 p1 p2 p3 p4 p5 p6) p6) from by unfold f1_l6_44; simp only [if_pos hc32])
      refine ⟨T11, _, X11, e11, N11, fun t k => ?_⟩
      try rw [eq11] at k
      refine pre9 t ?_
      show Steps p.tables e below (T10.setTop (mkF m 32 #[.val (.int p1), .val (.int p2), .val (.int p3), .val (.int p4), .val (.int p5), .val (.int p6), .val (.int (f1_l6_30 p1 p2 p3 p4 p5 p6)), .unset] [(.int (3 : Int32)), (.int p1)])) _
      refine XS.icmpNo X10.here hx rfl (hb hby d1_32) rfl (tlt hc32).2.2.2 ?_
      show Steps p.tables e below (T10.setTop (mkF m 35 #[.val (.int p1), .val (.int p2), .val (.int p3), .val (.int p4), .val (.int p5), .val (.int p6), .val (.int (f1_l6_30 p1 p2 p3 p4 p5 p6)), .unset] [])) _
      refine XS.iload X10.here hx rfl (hb hby d1_35) rfl ?_
      show Steps p.tables e below (T10.setTop (mkF m 37 #[.val (.int p1), .val (.int p2), .val (.int p3), .val (.int p4), .val (.int p5), .val (.int p6), .val (.int (f1_l6_30 p1 p2 p3 p4 p5 p6)), .unset] [(.int (f1_l6_30 p1 p2 p3 p4 p5 p6))])) _
      refine XS.iload X10.here hx rfl (hb hby d1_37) rfl ?_
      show Steps p.tables e below (T10.setTop (mkF m 39 #[.val (.int p1), .val (.int p2), .val (.int p3), .val (.int p4), .val (.int p5), .val (.int p6), .val (.int (f1_l6_30 p1 p2 p3 p4 p5 p6)), .unset] [(.int p6), (.int (f1_l6_30 p1 p2 p3 p4 p5 p6))])) _
      refine st11 _ ?_
      show Steps p.tables e below (T11.setTop (mkF m 42 #[.val (.int p1), .val (.int p2), .val (.int p3), .val (.int p4), .val (.int p5), .val (.int p6), .val (.int (f1_l6_30 p1 p2 p3 p4 p5 p6)), .unset] [(.int (f2 (f1_l6_30 p1 p2 p3 p4 p5 p6) p6))])) _
      refine XS.istore X11.here hx rfl (hb hby d1_42) rfl (l' := #[.val (.int p1), .val (.int p2), .val (.int p3), .val (.int p4), .val (.int p5), .val (.int p6), .val (.int (f2 (f1_l6_30 p1 p2 p3 p4 p5 p6) p6)), .unset]) rfl ?_
      exact k
    · have eq12 := (show (f1_l6_44 p1 p2 p3 p4 p5 p6) = (f1_l6_30 p1 p2 p3 p4 p5 p6) from by unfold f1_l6_44; simp only [if_neg hc32])
      refine ⟨T10, _, X10, e10, N10, fun t k => ?_⟩
      try rw [eq12] at k
      refine pre9 t ?_
      show Steps p.tables e below (T10.setTop (mkF m 32 #[.val (.int p1), .val (.int p2), .val (.int p3), .val (.int p4), .val (.int p5), .val (.int p6), .val (.int (f1_l6_30 p1 p2 p3 p4 p5 p6)), .unset] [(.int (3 : Int32)), (.int p1)])) _
      refine XS.icmpYes X10.here hx rfl (pc0 := 32) (pc' := 44) rfl (hb hby d1_32) rfl (flt hc32).2.2.2 (by decide) (by decide) ?_
      exact k
  have pre13 : ∀ t, Steps p.tables e below (T12.setTop (mkF m 45 #[.val (.int p1), .val (.int p2), .val (.int p3), .val (.int p4), .val (.int p5), .val (.int p6), .val (.int (f1_l6_44 p1 p2 p3 p4 p5 p6)), .unset] [(.int p2)])) t → Steps p.tables e below (s₁.setTop (entryFrame m #[(.int p1), (.int p2), (.int p3), (.int p4), (.int p5), (.int p6)] 8)) t := by
    intro t k
    refine pre10 t ?_
    show Steps p.tables e below (T12.setTop (mkF m 44 #[.val (.int p1), .val (.int p2), .val (.int p3), .val (.int p4), .val (.int p5), .val (.int p6), .val (.int (f1_l6_44 p1 p2 p3 p4 p5 p6)), .unset] [])) _
    refine XS.iloadN X12.here hx rfl (hb hby d1_44) rfl ?_
    exact k
  have pre14 : ∀ t, Steps p.tables e below (T12.setTop (mkF m 73 #[.val (.int p1), .val (.int p2), .val (.int p3), .val (.int p4), .val (.int p5), .val (.int p6), .val (.int (f1_l6_44 p1 p2 p3 p4 p5 p6)), .unset] [(.int (f1_s0_73 p1 p2 p3 p4 p5 p6))])) t → Steps p.tables e below (s₁.setTop (entryFrame m #[(.int p1), (.int p2), (.int p3), (.int p4), (.int p5), (.int p6)] 8)) t := by
    intro t k
    by_cases hc45 : p2 = (0 : Int32)
    · have eq15 := (show (f1_s0_73 p1 p2 p3 p4 p5 p6) = p3 from by unfold f1_s0_73; simp only [if_pos hc45])
      try rw [eq15] at k
      refine pre13 t ?_
      show Steps p.tables e below (T12.setTop (mkF m 45 #[.val (.int p1), .val (.int p2), .val (.int p3), .val (.int p4), .val (.int p5), .val (.int p6), .val (.int (f1_l6_44 p1 p2 p3 p4 p5 p6)), .unset] [(.int p2)])) _
      refine XS.ifNo X12.here hx rfl (hb hby d1_45) rfl ((if0 _ _).trans (teq hc45).2) ?_
      show Steps p.tables e below (T12.setTop (mkF m 48 #[.val (.int p1), .val (.int p2), .val (.int p3), .val (.int p4), .val (.int p5), .val (.int p6), .val (.int (f1_l6_44 p1 p2 p3 p4 p5 p6)), .unset] [])) _
      refine XS.iloadN X12.here hx rfl (hb hby d1_48) rfl ?_
      show Steps p.tables e below (T12.setTop (mkF m 49 #[.val (.int p1), .val (.int p2), .val (.int p3), .val (.int p4), .val (.int p5), .val (.int p6), .val (.int (f1_l6_44 p1 p2 p3 p4 p5 p6)), .unset] [(.int p3)])) _
      refine XS.goto X12.here hx rfl (pc0 := 49) (pc' := 73) rfl (hb hby d1_49) (by decide) (by decide) ?_
      exact k
    · have pre16 : ∀ t, Steps p.tables e below (T12.setTop (mkF m 54 #[.val (.int p1), .val (.int p2), .val (.int p3), .val (.int p4), .val (.int p5), .val (.int p6), .val (.int (f1_l6_44 p1 p2 p3 p4 p5 p6)), .unset] [(.int (1 : Int32)), (.int p2)])) t → Steps p.tables e below (s₁.setTop (entryFrame m #[(.int p1), (.int p2), (.int p3), (.int p4), (.int p5), (.int p6)] 8)) t := by
        intro t k
        refine pre13 t ?_
        show Steps p.tables e below (T12.setTop (mkF m 45 #[.val (.int p1), .val (.int p2), .val (.int p3), .val (.int p4), .val (.int p5), .val (.int p6), .val (.int (f1_l6_44 p1 p2 p3 p4 p5 p6)), .unset] [(.int p2)])) _
        refine XS.ifYes X12.here hx rfl (pc0 := 45) (pc' := 52) rfl (hb hby d1_45) rfl ((if0 _ _).trans (feq hc45).2) (by decide) (by decide) ?_
        show Steps p.tables e below (T12.setTop (mkF m 52 #[.val (.int p1), .val (.int p2), .val (.int p3), .val (.int p4), .val (.int p5), .val (.int p6), .val (.int (f1_l6_44 p1 p2 p3 p4 p5 p6)), .unset] [])) _
        refine XS.iloadN X12.here hx rfl (hb hby d1_52) rfl ?_
        show Steps p.tables e below (T12.setTop (mkF m 53 #[.val (.int p1), .val (.int p2), .val (.int p3), .val (.int p4), .val (.int p5), .val (.int p6), .val (.int (f1_l6_44 p1 p2 p3 p4 p5 p6)), .unset] [(.int p2)])) _
        refine XS.iconst X12.here hx rfl (hb hby d1_53) ?_
        exact k
      by_cases hc54 : p2 = (1 : Int32)
      · have eq17 := (show (f1_s0_73 p1 p2 p3 p4 p5 p6) = p4 from by unfold f1_s0_73; simp only [if_neg hc45, if_pos hc54])
        try rw [eq17] at k
        refine pre16 t ?_
        show Steps p.tables e below (T12.setTop (mkF m 54 #[.val (.int p1), .val (.int p2), .val (.int p3), .val (.int p4), .val (.int p5), .val (.int p6), .val (.int (f1_l6_44 p1 p2 p3 p4 p5 p6)), .unset] [(.int (1 : Int32)), (.int p2)])) _
        refine XS.icmpNo X12.here hx rfl (hb hby d1_54) rfl (teq hc54).2 ?_
        show Steps p.tables e below (T12.setTop (mkF m 57 #[.val (.int p1), .val (.int p2), .val (.int p3), .val (.int p4), .val (.int p5), .val (.int p6), .val (.int (f1_l6_44 p1 p2 p3 p4 p5 p6)), .unset] [])) _
        refine XS.iloadN X12.here hx rfl (hb hby d1_57) rfl ?_
        show Steps p.tables e below (T12.setTop (mkF m 58 #[.val (.int p1), .val (.int p2), .val (.int p3), .val (.int p4), .val (.int p5), .val (.int p6), .val (.int (f1_l6_44 p1 p2 p3 p4 p5 p6)), .unset] [(.int p4)])) _
        refine XS.goto X12.here hx rfl (pc0 := 58) (pc' := 73) rfl (hb hby d1_58) (by decide) (by decide) ?_
        exact k
      · have pre18 : ∀ t, Steps p.tables e below (T12.setTop (mkF m 63 #[.val (.int p1), .val (.int p2), .val (.int p3), .val (.int p4), .val (.int p5), .val (.int p6), .val (.int (f1_l6_44 p1 p2 p3 p4 p5 p6)), .unset] [(.int (2 : Int32)), (.int p2)])) t → Steps p.tables e below (s₁.setTop (entryFrame m #[(.int p1), (.int p2), (.int p3), (.int p4), (.int p5), (.int p6)] 8)) t := by
          intro t k
          refine pre16 t ?_
          show Steps p.tables e below (T12.setTop (mkF m 54 #[.val (.int p1), .val (.int p2), .val (.int p3), .val (.int p4), .val (.int p5), .val (.int p6), .val (.int (f1_l6_44 p1 p2 p3 p4 p5 p6)), .unset] [(.int (1 : Int32)), (.int p2)])) _
          refine XS.icmpYes X12.here hx rfl (pc0 := 54) (pc' := 61) rfl (hb hby d1_54) rfl (feq hc54).2 (by decide) (by decide) ?_
          show Steps p.tables e below (T12.setTop (mkF m 61 #[.val (.int p1), .val (.int p2), .val (.int p3), .val (.int p4), .val (.int p5), .val (.int p6), .val (.int (f1_l6_44 p1 p2 p3 p4 p5 p6)), .unset] [])) _
          refine XS.iloadN X12.here hx rfl (hb hby d1_61) rfl ?_
          show Steps p.tables e below (T12.setTop (mkF m 62 #[.val (.int p1), .val (.int p2), .val (.int p3), .val (.int p4), .val (.int p5), .val (.int p6), .val (.int (f1_l6_44 p1 p2 p3 p4 p5 p6)), .unset] [(.int p2)])) _
          refine XS.iconst X12.here hx rfl (hb hby d1_62) ?_
          exact k
        by_cases hc63 : p2 = (2 : Int32)
        · have eq19 := (show (f1_s0_73 p1 p2 p3 p4 p5 p6) = p5 from by unfold f1_s0_73; simp only [if_neg hc45, if_neg hc54, if_pos hc63])
          try rw [eq19] at k
          refine pre18 t ?_
          show Steps p.tables e below (T12.setTop (mkF m 63 #[.val (.int p1), .val (.int p2), .val (.int p3), .val (.int p4), .val (.int p5), .val (.int p6), .val (.int (f1_l6_44 p1 p2 p3 p4 p5 p6)), .unset] [(.int (2 : Int32)), (.int p2)])) _
          refine XS.icmpNo X12.here hx rfl (hb hby d1_63) rfl (teq hc63).2 ?_
          show Steps p.tables e below (T12.setTop (mkF m 66 #[.val (.int p1), .val (.int p2), .val (.int p3), .val (.int p4), .val (.int p5), .val (.int p6), .val (.int (f1_l6_44 p1 p2 p3 p4 p5 p6)), .unset] [])) _
          refine XS.iload X12.here hx rfl (hb hby d1_66) rfl ?_
          show Steps p.tables e below (T12.setTop (mkF m 68 #[.val (.int p1), .val (.int p2), .val (.int p3), .val (.int p4), .val (.int p5), .val (.int p6), .val (.int (f1_l6_44 p1 p2 p3 p4 p5 p6)), .unset] [(.int p5)])) _
          refine XS.goto X12.here hx rfl (pc0 := 68) (pc' := 73) rfl (hb hby d1_68) (by decide) (by decide) ?_
          exact k
        · have eq20 := (show (f1_s0_73 p1 p2 p3 p4 p5 p6) = p6 from by unfold f1_s0_73; simp only [if_neg hc45, if_neg hc54, if_neg hc63])
          try rw [eq20] at k
          refine pre18 t ?_
          show Steps p.tables e below (T12.setTop (mkF m 63 #[.val (.int p1), .val (.int p2), .val (.int p3), .val (.int p4), .val (.int p5), .val (.int p6), .val (.int (f1_l6_44 p1 p2 p3 p4 p5 p6)), .unset] [(.int (2 : Int32)), (.int p2)])) _
          refine XS.icmpYes X12.here hx rfl (pc0 := 63) (pc' := 71) rfl (hb hby d1_63) rfl (feq hc63).2 (by decide) (by decide) ?_
          show Steps p.tables e below (T12.setTop (mkF m 71 #[.val (.int p1), .val (.int p2), .val (.int p3), .val (.int p4), .val (.int p5), .val (.int p6), .val (.int (f1_l6_44 p1 p2 p3 p4 p5 p6)), .unset] [])) _
          refine XS.iload X12.here hx rfl (hb hby d1_71) rfl ?_
          exact k
  have pre21 : ∀ t, Steps p.tables e below (T12.setTop (mkF m 79 #[.val (.int p1), .val (.int p2), .val (.int p3), .val (.int p4), .val (.int p5), .val (.int p6), .val (.int (f1_l6_44 p1 p2 p3 p4 p5 p6)), .val (.int (f1_s0_73 p1 p2 p3 p4 p5 p6))] [(.int (f1_l6_44 p1 p2 p3 p4 p5 p6)), (.int (f1_s0_73 p1 p2 p3 p4 p5 p6))])) t → Steps p.tables e below (s₁.setTop (entryFrame m #[(.int p1), (.int p2), (.int p3), (.int p4), (.int p5), (.int p6)] 8)) t := by
    intro t k
    refine pre14 t ?_
    show Steps p.tables e below (T12.setTop (mkF m 73 #[.val (.int p1), .val (.int p2), .val (.int p3), .val (.int p4), .val (.int p5), .val (.int p6), .val (.int (f1_l6_44 p1 p2 p3 p4 p5 p6)), .unset] [(.int (f1_s0_73 p1 p2 p3 p4 p5 p6))])) _
    refine XS.istore X12.here hx rfl (hb hby d1_73) rfl (l' := #[.val (.int p1), .val (.int p2), .val (.int p3), .val (.int p4), .val (.int p5), .val (.int p6), .val (.int (f1_l6_44 p1 p2 p3 p4 p5 p6)), .val (.int (f1_s0_73 p1 p2 p3 p4 p5 p6))]) rfl ?_
    show Steps p.tables e below (T12.setTop (mkF m 75 #[.val (.int p1), .val (.int p2), .val (.int p3), .val (.int p4), .val (.int p5), .val (.int p6), .val (.int (f1_l6_44 p1 p2 p3 p4 p5 p6)), .val (.int (f1_s0_73 p1 p2 p3 p4 p5 p6))] [])) _
    refine XS.iload X12.here hx rfl (hb hby d1_75) rfl ?_
    show Steps p.tables e below (T12.setTop (mkF m 77 #[.val (.int p1), .val (.int p2), .val (.int p3), .val (.int p4), .val (.int p5), .val (.int p6), .val (.int (f1_l6_44 p1 p2 p3 p4 p5 p6)), .val (.int (f1_s0_73 p1 p2 p3 p4 p5 p6))] [(.int (f1_s0_73 p1 p2 p3 p4 p5 p6))])) _
    refine XS.iload X12.here hx rfl (hb hby d1_77) rfl ?_
    exact k
  by_cases hc79 : (f1_s0_73 p1 p2 p3 p4 p5 p6) = (f1_l6_44 p1 p2 p3 p4 p5 p6)
  · have eq22 : (f1 p1 p2 p3 p4 p5 p6) = p2 := by unfold f1; simp only [if_pos hc79]
    obtain ⟨fs, hr, hrun, hended, hW, hsame⟩ := X12.leave (v := some (.int p2)) (fun h => by rw [Bd.returns] at h; cases h)
    refine ⟨_, _, pre21 _ ?_, hrun, hended, _, _, rfl, ?_, ⟨_, rfl⟩, hW, hsame.mono (by decide) (by decide)⟩
    · show Steps p.tables e below (T12.setTop (mkF m 79 #[.val (.int p1), .val (.int p2), .val (.int p3), .val (.int p4), .val (.int p5), .val (.int p6), .val (.int (f1_l6_44 p1 p2 p3 p4 p5 p6)), .val (.int (f1_s0_73 p1 p2 p3 p4 p5 p6))] [(.int (f1_l6_44 p1 p2 p3 p4 p5 p6)), (.int (f1_s0_73 p1 p2 p3 p4 p5 p6))])) _
      refine XS.icmpNo X12.here hx rfl (hb hby d1_79) rfl (teq hc79).2 ?_
      show Steps p.tables e below (T12.setTop (mkF m 82 #[.val (.int p1), .val (.int p2), .val (.int p3), .val (.int p4), .val (.int p5), .val (.int p6), .val (.int (f1_l6_44 p1 p2 p3 p4 p5 p6)), .val (.int (f1_s0_73 p1 p2 p3 p4 p5 p6))] [])) _
      refine XS.iloadN X12.here hx rfl (hb hby d1_82) rfl ?_
      show Steps p.tables e below (T12.setTop (mkF m 83 #[.val (.int p1), .val (.int p2), .val (.int p3), .val (.int p4), .val (.int p5), .val (.int p6), .val (.int (f1_l6_44 p1 p2 p3 p4 p5 p6)), .val (.int (f1_s0_73 p1 p2 p3 p4 p5 p6))] [(.int p2)])) _
      exact retI X12 hx Bd.returns (hb hby d1_83) hr
    · show Q1 Z p1 p2 p3 p4 p5 p6 h0 n0 _ T12.heap _
      rw [e12]
      exact ⟨by rw [eq22], N12, rfl⟩
  · have pre23 : ∀ t, Steps p.tables e below (T12.setTop (mkF m 87 #[.val (.int p1), .val (.int p2), .val (.int p3), .val (.int p4), .val (.int p5), .val (.int p6), .val (.int (f1_l6_44 p1 p2 p3 p4 p5 p6)), .val (.int (f1_s0_73 p1 p2 p3 p4 p5 p6))] [(.int (f1_l6_44 p1 p2 p3 p4 p5 p6)), (.int p3)])) t → Steps p.tables e below (s₁.setTop (entryFrame m #[(.int p1), (.int p2), (.int p3), (.int p4), (.int p5), (.int p6)] 8)) t := by
      intro t k
      refine pre21 t ?_
      show Steps p.tables e below (T12.setTop (mkF m 79 #[.val (.int p1), .val (.int p2), .val (.int p3), .val (.int p4), .val (.int p5), .val (.int p6), .val (.int (f1_l6_44 p1 p2 p3 p4 p5 p6)), .val (.int (f1_s0_73 p1 p2 p3 p4 p5 p6))] [(.int (f1_l6_44 p1 p2 p3 p4 p5 p6)), (.int (f1_s0_73 p1 p2 p3 p4 p5 p6))])) _
      refine XS.icmpYes X12.here hx rfl (pc0 := 79) (pc' := 84) rfl (hb hby d1_79) rfl (feq hc79).2 (by decide) (by decide) ?_
      show Steps p.tables e below (T12.setTop (mkF m 84 #[.val (.int p1), .val (.int p2), .val (.int p3), .val (.int p4), .val (.int p5), .val (.int p6), .val (.int (f1_l6_44 p1 p2 p3 p4 p5 p6)), .val (.int (f1_s0_73 p1 p2 p3 p4 p5 p6))] [])) _
      refine XS.iloadN X12.here hx rfl (hb hby d1_84) rfl ?_
      show Steps p.tables e below (T12.setTop (mkF m 85 #[.val (.int p1), .val (.int p2), .val (.int p3), .val (.int p4), .val (.int p5), .val (.int p6), .val (.int (f1_l6_44 p1 p2 p3 p4 p5 p6)), .val (.int (f1_s0_73 p1 p2 p3 p4 p5 p6))] [(.int p3)])) _
      refine XS.iload X12.here hx rfl (hb hby d1_85) rfl ?_
      exact k
    by_cases hc87 : p3 = (f1_l6_44 p1 p2 p3 p4 p5 p6)
    · have eq24 : (f1 p1 p2 p3 p4 p5 p6) = (0 : Int32) := by unfold f1; simp only [if_neg hc79, if_pos hc87]
      obtain ⟨fs, hr, hrun, hended, hW, hsame⟩ := X12.leave (v := some (.int (0 : Int32))) (fun h => by rw [Bd.returns] at h; cases h)
      refine ⟨_, _, pre23 _ ?_, hrun, hended, _, _, rfl, ?_, ⟨_, rfl⟩, hW, hsame.mono (by decide) (by decide)⟩
      · show Steps p.tables e below (T12.setTop (mkF m 87 #[.val (.int p1), .val (.int p2), .val (.int p3), .val (.int p4), .val (.int p5), .val (.int p6), .val (.int (f1_l6_44 p1 p2 p3 p4 p5 p6)), .val (.int (f1_s0_73 p1 p2 p3 p4 p5 p6))] [(.int (f1_l6_44 p1 p2 p3 p4 p5 p6)), (.int p3)])) _
        refine XS.icmpNo X12.here hx rfl (hb hby d1_87) rfl (teq hc87).2 ?_
        show Steps p.tables e below (T12.setTop (mkF m 90 #[.val (.int p1), .val (.int p2), .val (.int p3), .val (.int p4), .val (.int p5), .val (.int p6), .val (.int (f1_l6_44 p1 p2 p3 p4 p5 p6)), .val (.int (f1_s0_73 p1 p2 p3 p4 p5 p6))] [])) _
        refine XS.iconst X12.here hx rfl (hb hby d1_90) ?_
        show Steps p.tables e below (T12.setTop (mkF m 91 #[.val (.int p1), .val (.int p2), .val (.int p3), .val (.int p4), .val (.int p5), .val (.int p6), .val (.int (f1_l6_44 p1 p2 p3 p4 p5 p6)), .val (.int (f1_s0_73 p1 p2 p3 p4 p5 p6))] [(.int (0 : Int32))])) _
        exact retI X12 hx Bd.returns (hb hby d1_91) hr
      · show Q1 Z p1 p2 p3 p4 p5 p6 h0 n0 _ T12.heap _
        rw [e12]
        exact ⟨by rw [eq24], N12, rfl⟩
    · have pre25 : ∀ t, Steps p.tables e below (T12.setTop (mkF m 94 #[.val (.int p1), .val (.int p2), .val (.int p3), .val (.int p4), .val (.int p5), .val (.int p6), .val (.int (f1_l6_44 p1 p2 p3 p4 p5 p6)), .val (.int (f1_s0_73 p1 p2 p3 p4 p5 p6))] [(.int (1 : Int32)), (.int p1)])) t → Steps p.tables e below (s₁.setTop (entryFrame m #[(.int p1), (.int p2), (.int p3), (.int p4), (.int p5), (.int p6)] 8)) t := by
        intro t k
        refine pre23 t ?_
        show Steps p.tables e below (T12.setTop (mkF m 87 #[.val (.int p1), .val (.int p2), .val (.int p3), .val (.int p4), .val (.int p5), .val (.int p6), .val (.int (f1_l6_44 p1 p2 p3 p4 p5 p6)), .val (.int (f1_s0_73 p1 p2 p3 p4 p5 p6))] [(.int (f1_l6_44 p1 p2 p3 p4 p5 p6)), (.int p3)])) _
        refine XS.icmpYes X12.here hx rfl (pc0 := 87) (pc' := 92) rfl (hb hby d1_87) rfl (feq hc87).2 (by decide) (by decide) ?_
        show Steps p.tables e below (T12.setTop (mkF m 92 #[.val (.int p1), .val (.int p2), .val (.int p3), .val (.int p4), .val (.int p5), .val (.int p6), .val (.int (f1_l6_44 p1 p2 p3 p4 p5 p6)), .val (.int (f1_s0_73 p1 p2 p3 p4 p5 p6))] [])) _
        refine XS.iloadN X12.here hx rfl (hb hby d1_92) rfl ?_
        show Steps p.tables e below (T12.setTop (mkF m 93 #[.val (.int p1), .val (.int p2), .val (.int p3), .val (.int p4), .val (.int p5), .val (.int p6), .val (.int (f1_l6_44 p1 p2 p3 p4 p5 p6)), .val (.int (f1_s0_73 p1 p2 p3 p4 p5 p6))] [(.int p1)])) _
        refine XS.iconst X12.here hx rfl (hb hby d1_93) ?_
        exact k
      by_cases hc94 : (1 : Int32) < p1
      · have pre26 : ∀ t, Steps p.tables e below (T12.setTop (mkF m 100 #[.val (.int p1), .val (.int p2), .val (.int p3), .val (.int p4), .val (.int p5), .val (.int p6), .val (.int (f1_l6_44 p1 p2 p3 p4 p5 p6)), .val (.int (f1_s0_73 p1 p2 p3 p4 p5 p6))] [(.int (f1_l6_44 p1 p2 p3 p4 p5 p6)), (.int p4)])) t → Steps p.tables e below (s₁.setTop (entryFrame m #[(.int p1), (.int p2), (.int p3), (.int p4), (.int p5), (.int p6)] 8)) t := by
          intro t k
          refine pre25 t ?_
          show Steps p.tables e below (T12.setTop (mkF m 94 #[.val (.int p1), .val (.int p2), .val (.int p3), .val (.int p4), .val (.int p5), .val (.int p6), .val (.int (f1_l6_44 p1 p2 p3 p4 p5 p6)), .val (.int (f1_s0_73 p1 p2 p3 p4 p5 p6))] [(.int (1 : Int32)), (.int p1)])) _
          refine XS.icmpNo X12.here hx rfl (hb hby d1_94) rfl (tlt hc94).2.2.2 ?_
          show Steps p.tables e below (T12.setTop (mkF m 97 #[.val (.int p1), .val (.int p2), .val (.int p3), .val (.int p4), .val (.int p5), .val (.int p6), .val (.int (f1_l6_44 p1 p2 p3 p4 p5 p6)), .val (.int (f1_s0_73 p1 p2 p3 p4 p5 p6))] [])) _
          refine XS.iloadN X12.here hx rfl (hb hby d1_97) rfl ?_
          show Steps p.tables e below (T12.setTop (mkF m 98 #[.val (.int p1), .val (.int p2), .val (.int p3), .val (.int p4), .val (.int p5), .val (.int p6), .val (.int (f1_l6_44 p1 p2 p3 p4 p5 p6)), .val (.int (f1_s0_73 p1 p2 p3 p4 p5 p6))] [(.int p4)])) _
          refine XS.iload X12.here hx rfl (hb hby d1_98) rfl ?_
          exact k
        by_cases hc100 : p4 = (f1_l6_44 p1 p2 p3 p4 p5 p6)
        · have eq27 : (f1 p1 p2 p3 p4 p5 p6) = (1 : Int32) := by unfold f1; simp only [if_neg hc79, if_neg hc87, if_pos hc94, if_pos hc100]
          obtain ⟨fs, hr, hrun, hended, hW, hsame⟩ := X12.leave (v := some (.int (1 : Int32))) (fun h => by rw [Bd.returns] at h; cases h)
          refine ⟨_, _, pre26 _ ?_, hrun, hended, _, _, rfl, ?_, ⟨_, rfl⟩, hW, hsame.mono (by decide) (by decide)⟩
          · show Steps p.tables e below (T12.setTop (mkF m 100 #[.val (.int p1), .val (.int p2), .val (.int p3), .val (.int p4), .val (.int p5), .val (.int p6), .val (.int (f1_l6_44 p1 p2 p3 p4 p5 p6)), .val (.int (f1_s0_73 p1 p2 p3 p4 p5 p6))] [(.int (f1_l6_44 p1 p2 p3 p4 p5 p6)), (.int p4)])) _
            refine XS.icmpNo X12.here hx rfl (hb hby d1_100) rfl (teq hc100).2 ?_
            show Steps p.tables e below (T12.setTop (mkF m 103 #[.val (.int p1), .val (.int p2), .val (.int p3), .val (.int p4), .val (.int p5), .val (.int p6), .val (.int (f1_l6_44 p1 p2 p3 p4 p5 p6)), .val (.int (f1_s0_73 p1 p2 p3 p4 p5 p6))] [])) _
            refine XS.iconst X12.here hx rfl (hb hby d1_103) ?_
            show Steps p.tables e below (T12.setTop (mkF m 104 #[.val (.int p1), .val (.int p2), .val (.int p3), .val (.int p4), .val (.int p5), .val (.int p6), .val (.int (f1_l6_44 p1 p2 p3 p4 p5 p6)), .val (.int (f1_s0_73 p1 p2 p3 p4 p5 p6))] [(.int (1 : Int32))])) _
            exact retI X12 hx Bd.returns (hb hby d1_104) hr
          · show Q1 Z p1 p2 p3 p4 p5 p6 h0 n0 _ T12.heap _
            rw [e12]
            exact ⟨by rw [eq27], N12, rfl⟩
        · have pre28 : ∀ t, Steps p.tables e below (T12.setTop (mkF m 107 #[.val (.int p1), .val (.int p2), .val (.int p3), .val (.int p4), .val (.int p5), .val (.int p6), .val (.int (f1_l6_44 p1 p2 p3 p4 p5 p6)), .val (.int (f1_s0_73 p1 p2 p3 p4 p5 p6))] [(.int (2 : Int32)), (.int p1)])) t → Steps p.tables e below (s₁.setTop (entryFrame m #[(.int p1), (.int p2), (.int p3), (.int p4), (.int p5), (.int p6)] 8)) t := by
            intro t k
            refine pre26 t ?_
            show Steps p.tables e below (T12.setTop (mkF m 100 #[.val (.int p1), .val (.int p2), .val (.int p3), .val (.int p4), .val (.int p5), .val (.int p6), .val (.int (f1_l6_44 p1 p2 p3 p4 p5 p6)), .val (.int (f1_s0_73 p1 p2 p3 p4 p5 p6))] [(.int (f1_l6_44 p1 p2 p3 p4 p5 p6)), (.int p4)])) _
            refine XS.icmpYes X12.here hx rfl (pc0 := 100) (pc' := 105) rfl (hb hby d1_100) rfl (feq hc100).2 (by decide) (by decide) ?_
            show Steps p.tables e below (T12.setTop (mkF m 105 #[.val (.int p1), .val (.int p2), .val (.int p3), .val (.int p4), .val (.int p5), .val (.int p6), .val (.int (f1_l6_44 p1 p2 p3 p4 p5 p6)), .val (.int (f1_s0_73 p1 p2 p3 p4 p5 p6))] [])) _
            refine XS.iloadN X12.here hx rfl (hb hby d1_105) rfl ?_
            show Steps p.tables e below (T12.setTop (mkF m 106 #[.val (.int p1), .val (.int p2), .val (.int p3), .val (.int p4), .val (.int p5), .val (.int p6), .val (.int (f1_l6_44 p1 p2 p3 p4 p5 p6)), .val (.int (f1_s0_73 p1 p2 p3 p4 p5 p6))] [(.int p1)])) _
            refine XS.iconst X12.here hx rfl (hb hby d1_106) ?_
            exact k
          by_cases hc107 : (2 : Int32) < p1
          · have pre29 : ∀ t, Steps p.tables e below (T12.setTop (mkF m 114 #[.val (.int p1), .val (.int p2), .val (.int p3), .val (.int p4), .val (.int p5), .val (.int p6), .val (.int (f1_l6_44 p1 p2 p3 p4 p5 p6)), .val (.int (f1_s0_73 p1 p2 p3 p4 p5 p6))] [(.int (f1_l6_44 p1 p2 p3 p4 p5 p6)), (.int p5)])) t → Steps p.tables e below (s₁.setTop (entryFrame m #[(.int p1), (.int p2), (.int p3), (.int p4), (.int p5), (.int p6)] 8)) t := by
              intro t k
              refine pre28 t ?_
              show Steps p.tables e below (T12.setTop (mkF m 107 #[.val (.int p1), .val (.int p2), .val (.int p3), .val (.int p4), .val (.int p5), .val (.int p6), .val (.int (f1_l6_44 p1 p2 p3 p4 p5 p6)), .val (.int (f1_s0_73 p1 p2 p3 p4 p5 p6))] [(.int (2 : Int32)), (.int p1)])) _
              refine XS.icmpNo X12.here hx rfl (hb hby d1_107) rfl (tlt hc107).2.2.2 ?_
              show Steps p.tables e below (T12.setTop (mkF m 110 #[.val (.int p1), .val (.int p2), .val (.int p3), .val (.int p4), .val (.int p5), .val (.int p6), .val (.int (f1_l6_44 p1 p2 p3 p4 p5 p6)), .val (.int (f1_s0_73 p1 p2 p3 p4 p5 p6))] [])) _
              refine XS.iload X12.here hx rfl (hb hby d1_110) rfl ?_
              show Steps p.tables e below (T12.setTop (mkF m 112 #[.val (.int p1), .val (.int p2), .val (.int p3), .val (.int p4), .val (.int p5), .val (.int p6), .val (.int (f1_l6_44 p1 p2 p3 p4 p5 p6)), .val (.int (f1_s0_73 p1 p2 p3 p4 p5 p6))] [(.int p5)])) _
              refine XS.iload X12.here hx rfl (hb hby d1_112) rfl ?_
              exact k
            by_cases hc114 : p5 = (f1_l6_44 p1 p2 p3 p4 p5 p6)
            · have eq30 : (f1 p1 p2 p3 p4 p5 p6) = (2 : Int32) := by unfold f1; simp only [if_neg hc79, if_neg hc87, if_pos hc94, if_neg hc100, if_pos hc107, if_pos hc114]
              obtain ⟨fs, hr, hrun, hended, hW, hsame⟩ := X12.leave (v := some (.int (2 : Int32))) (fun h => by rw [Bd.returns] at h; cases h)
              refine ⟨_, _, pre29 _ ?_, hrun, hended, _, _, rfl, ?_, ⟨_, rfl⟩, hW, hsame.mono (by decide) (by decide)⟩
              · show Steps p.tables e below (T12.setTop (mkF m 114 #[.val (.int p1), .val (.int p2), .val (.int p3), .val (.int p4), .val (.int p5), .val (.int p6), .val (.int (f1_l6_44 p1 p2 p3 p4 p5 p6)), .val (.int (f1_s0_73 p1 p2 p3 p4 p5 p6))] [(.int (f1_l6_44 p1 p2 p3 p4 p5 p6)), (.int p5)])) _
                refine XS.icmpNo X12.here hx rfl (hb hby d1_114) rfl (teq hc114).2 ?_
                show Steps p.tables e below (T12.setTop (mkF m 117 #[.val (.int p1), .val (.int p2), .val (.int p3), .val (.int p4), .val (.int p5), .val (.int p6), .val (.int (f1_l6_44 p1 p2 p3 p4 p5 p6)), .val (.int (f1_s0_73 p1 p2 p3 p4 p5 p6))] [])) _
                refine XS.iconst X12.here hx rfl (hb hby d1_117) ?_
                show Steps p.tables e below (T12.setTop (mkF m 118 #[.val (.int p1), .val (.int p2), .val (.int p3), .val (.int p4), .val (.int p5), .val (.int p6), .val (.int (f1_l6_44 p1 p2 p3 p4 p5 p6)), .val (.int (f1_s0_73 p1 p2 p3 p4 p5 p6))] [(.int (2 : Int32))])) _
                exact retI X12 hx Bd.returns (hb hby d1_118) hr
              · show Q1 Z p1 p2 p3 p4 p5 p6 h0 n0 _ T12.heap _
                rw [e12]
                exact ⟨by rw [eq30], N12, rfl⟩
            · have eq31 : (f1 p1 p2 p3 p4 p5 p6) = (p1 - (1 : Int32)) := by unfold f1; simp only [if_neg hc79, if_neg hc87, if_pos hc94, if_neg hc100, if_pos hc107, if_neg hc114]
              obtain ⟨fs, hr, hrun, hended, hW, hsame⟩ := X12.leave (v := some (.int (p1 - (1 : Int32)))) (fun h => by rw [Bd.returns] at h; cases h)
              refine ⟨_, _, pre29 _ ?_, hrun, hended, _, _, rfl, ?_, ⟨_, rfl⟩, hW, hsame.mono (by decide) (by decide)⟩
              · show Steps p.tables e below (T12.setTop (mkF m 114 #[.val (.int p1), .val (.int p2), .val (.int p3), .val (.int p4), .val (.int p5), .val (.int p6), .val (.int (f1_l6_44 p1 p2 p3 p4 p5 p6)), .val (.int (f1_s0_73 p1 p2 p3 p4 p5 p6))] [(.int (f1_l6_44 p1 p2 p3 p4 p5 p6)), (.int p5)])) _
                refine XS.icmpYes X12.here hx rfl (pc0 := 114) (pc' := 119) rfl (hb hby d1_114) rfl (feq hc114).2 (by decide) (by decide) ?_
                show Steps p.tables e below (T12.setTop (mkF m 119 #[.val (.int p1), .val (.int p2), .val (.int p3), .val (.int p4), .val (.int p5), .val (.int p6), .val (.int (f1_l6_44 p1 p2 p3 p4 p5 p6)), .val (.int (f1_s0_73 p1 p2 p3 p4 p5 p6))] [])) _
                refine XS.iloadN X12.here hx rfl (hb hby d1_119) rfl ?_
                show Steps p.tables e below (T12.setTop (mkF m 120 #[.val (.int p1), .val (.int p2), .val (.int p3), .val (.int p4), .val (.int p5), .val (.int p6), .val (.int (f1_l6_44 p1 p2 p3 p4 p5 p6)), .val (.int (f1_s0_73 p1 p2 p3 p4 p5 p6))] [(.int p1)])) _
                refine XS.iconst X12.here hx rfl (hb hby d1_120) ?_
                show Steps p.tables e below (T12.setTop (mkF m 121 #[.val (.int p1), .val (.int p2), .val (.int p3), .val (.int p4), .val (.int p5), .val (.int p6), .val (.int (f1_l6_44 p1 p2 p3 p4 p5 p6)), .val (.int (f1_s0_73 p1 p2 p3 p4 p5 p6))] [(.int (1 : Int32)), (.int p1)])) _
                refine XS.isub X12.here hx rfl (hb hby d1_121) rfl ?_
                show Steps p.tables e below (T12.setTop (mkF m 122 #[.val (.int p1), .val (.int p2), .val (.int p3), .val (.int p4), .val (.int p5), .val (.int p6), .val (.int (f1_l6_44 p1 p2 p3 p4 p5 p6)), .val (.int (f1_s0_73 p1 p2 p3 p4 p5 p6))] [(.int (p1 - (1 : Int32)))])) _
                exact retI X12 hx Bd.returns (hb hby d1_122) hr
              · show Q1 Z p1 p2 p3 p4 p5 p6 h0 n0 _ T12.heap _
                rw [e12]
                exact ⟨by rw [eq31], N12, rfl⟩
          · have eq32 : (f1 p1 p2 p3 p4 p5 p6) = (p1 - (1 : Int32)) := by unfold f1; simp only [if_neg hc79, if_neg hc87, if_pos hc94, if_neg hc100, if_neg hc107]
            obtain ⟨fs, hr, hrun, hended, hW, hsame⟩ := X12.leave (v := some (.int (p1 - (1 : Int32)))) (fun h => by rw [Bd.returns] at h; cases h)
            refine ⟨_, _, pre28 _ ?_, hrun, hended, _, _, rfl, ?_, ⟨_, rfl⟩, hW, hsame.mono (by decide) (by decide)⟩
            · show Steps p.tables e below (T12.setTop (mkF m 107 #[.val (.int p1), .val (.int p2), .val (.int p3), .val (.int p4), .val (.int p5), .val (.int p6), .val (.int (f1_l6_44 p1 p2 p3 p4 p5 p6)), .val (.int (f1_s0_73 p1 p2 p3 p4 p5 p6))] [(.int (2 : Int32)), (.int p1)])) _
              refine XS.icmpYes X12.here hx rfl (pc0 := 107) (pc' := 119) rfl (hb hby d1_107) rfl (flt hc107).2.2.2 (by decide) (by decide) ?_
              show Steps p.tables e below (T12.setTop (mkF m 119 #[.val (.int p1), .val (.int p2), .val (.int p3), .val (.int p4), .val (.int p5), .val (.int p6), .val (.int (f1_l6_44 p1 p2 p3 p4 p5 p6)), .val (.int (f1_s0_73 p1 p2 p3 p4 p5 p6))] [])) _
              refine XS.iloadN X12.here hx rfl (hb hby d1_119) rfl ?_
              show Steps p.tables e below (T12.setTop (mkF m 120 #[.val (.int p1), .val (.int p2), .val (.int p3), .val (.int p4), .val (.int p5), .val (.int p6), .val (.int (f1_l6_44 p1 p2 p3 p4 p5 p6)), .val (.int (f1_s0_73 p1 p2 p3 p4 p5 p6))] [(.int p1)])) _
              refine XS.iconst X12.here hx rfl (hb hby d1_120) ?_
              show Steps p.tables e below (T12.setTop (mkF m 121 #[.val (.int p1), .val (.int p2), .val (.int p3), .val (.int p4), .val (.int p5), .val (.int p6), .val (.int (f1_l6_44 p1 p2 p3 p4 p5 p6)), .val (.int (f1_s0_73 p1 p2 p3 p4 p5 p6))] [(.int (1 : Int32)), (.int p1)])) _
              refine XS.isub X12.here hx rfl (hb hby d1_121) rfl ?_
              show Steps p.tables e below (T12.setTop (mkF m 122 #[.val (.int p1), .val (.int p2), .val (.int p3), .val (.int p4), .val (.int p5), .val (.int p6), .val (.int (f1_l6_44 p1 p2 p3 p4 p5 p6)), .val (.int (f1_s0_73 p1 p2 p3 p4 p5 p6))] [(.int (p1 - (1 : Int32)))])) _
              exact retI X12 hx Bd.returns (hb hby d1_122) hr
            · show Q1 Z p1 p2 p3 p4 p5 p6 h0 n0 _ T12.heap _
              rw [e12]
              exact ⟨by rw [eq32], N12, rfl⟩
      · have pre33 : ∀ t, Steps p.tables e below (T12.setTop (mkF m 107 #[.val (.int p1), .val (.int p2), .val (.int p3), .val (.int p4), .val (.int p5), .val (.int p6), .val (.int (f1_l6_44 p1 p2 p3 p4 p5 p6)), .val (.int (f1_s0_73 p1 p2 p3 p4 p5 p6))] [(.int (2 : Int32)), (.int p1)])) t → Steps p.tables e below (s₁.setTop (entryFrame m #[(.int p1), (.int p2), (.int p3), (.int p4), (.int p5), (.int p6)] 8)) t := by
          intro t k
          refine pre25 t ?_
          show Steps p.tables e below (T12.setTop (mkF m 94 #[.val (.int p1), .val (.int p2), .val (.int p3), .val (.int p4), .val (.int p5), .val (.int p6), .val (.int (f1_l6_44 p1 p2 p3 p4 p5 p6)), .val (.int (f1_s0_73 p1 p2 p3 p4 p5 p6))] [(.int (1 : Int32)), (.int p1)])) _
          refine XS.icmpYes X12.here hx rfl (pc0 := 94) (pc' := 105) rfl (hb hby d1_94) rfl (flt hc94).2.2.2 (by decide) (by decide) ?_
          show Steps p.tables e below (T12.setTop (mkF m 105 #[.val (.int p1), .val (.int p2), .val (.int p3), .val (.int p4), .val (.int p5), .val (.int p6), .val (.int (f1_l6_44 p1 p2 p3 p4 p5 p6)), .val (.int (f1_s0_73 p1 p2 p3 p4 p5 p6))] [])) _
          refine XS.iloadN X12.here hx rfl (hb hby d1_105) rfl ?_
          show Steps p.tables e below (T12.setTop (mkF m 106 #[.val (.int p1), .val (.int p2), .val (.int p3), .val (.int p4), .val (.int p5), .val (.int p6), .val (.int (f1_l6_44 p1 p2 p3 p4 p5 p6)), .val (.int (f1_s0_73 p1 p2 p3 p4 p5 p6))] [(.int p1)])) _
          refine XS.iconst X12.here hx rfl (hb hby d1_106) ?_
          exact k
        by_cases hc107 : (2 : Int32) < p1
        · have pre34 : ∀ t, Steps p.tables e below (T12.setTop (mkF m 114 #[.val (.int p1), .val (.int p2), .val (.int p3), .val (.int p4), .val (.int p5), .val (.int p6), .val (.int (f1_l6_44 p1 p2 p3 p4 p5 p6)), .val (.int (f1_s0_73 p1 p2 p3 p4 p5 p6))] [(.int (f1_l6_44 p1 p2 p3 p4 p5 p6)), (.int p5)])) t → Steps p.tables e below (s₁.setTop (entryFrame m #[(.int p1), (.int p2), (.int p3), (.int p4), (.int p5), (.int p6)] 8)) t := by
            intro t k
            refine pre33 t ?_
            show Steps p.tables e below (T12.setTop (mkF m 107 #[.val (.int p1), .val (.int p2), .val (.int p3), .val (.int p4), .val (.int p5), .val (.int p6), .val (.int (f1_l6_44 p1 p2 p3 p4 p5 p6)), .val (.int (f1_s0_73 p1 p2 p3 p4 p5 p6))] [(.int (2 : Int32)), (.int p1)])) _
            refine XS.icmpNo X12.here hx rfl (hb hby d1_107) rfl (tlt hc107).2.2.2 ?_
            show Steps p.tables e below (T12.setTop (mkF m 110 #[.val (.int p1), .val (.int p2), .val (.int p3), .val (.int p4), .val (.int p5), .val (.int p6), .val (.int (f1_l6_44 p1 p2 p3 p4 p5 p6)), .val (.int (f1_s0_73 p1 p2 p3 p4 p5 p6))] [])) _
            refine XS.iload X12.here hx rfl (hb hby d1_110) rfl ?_
            show Steps p.tables e below (T12.setTop (mkF m 112 #[.val (.int p1), .val (.int p2), .val (.int p3), .val (.int p4), .val (.int p5), .val (.int p6), .val (.int (f1_l6_44 p1 p2 p3 p4 p5 p6)), .val (.int (f1_s0_73 p1 p2 p3 p4 p5 p6))] [(.int p5)])) _
            refine XS.iload X12.here hx rfl (hb hby d1_112) rfl ?_
            exact k
          by_cases hc114 : p5 = (f1_l6_44 p1 p2 p3 p4 p5 p6)
          · have eq35 : (f1 p1 p2 p3 p4 p5 p6) = (2 : Int32) := by unfold f1; simp only [if_neg hc79, if_neg hc87, if_neg hc94, if_pos hc107, if_pos hc114]
            obtain ⟨fs, hr, hrun, hended, hW, hsame⟩ := X12.leave (v := some (.int (2 : Int32))) (fun h => by rw [Bd.returns] at h; cases h)
            refine ⟨_, _, pre34 _ ?_, hrun, hended, _, _, rfl, ?_, ⟨_, rfl⟩, hW, hsame.mono (by decide) (by decide)⟩
            · show Steps p.tables e below (T12.setTop (mkF m 114 #[.val (.int p1), .val (.int p2), .val (.int p3), .val (.int p4), .val (.int p5), .val (.int p6), .val (.int (f1_l6_44 p1 p2 p3 p4 p5 p6)), .val (.int (f1_s0_73 p1 p2 p3 p4 p5 p6))] [(.int (f1_l6_44 p1 p2 p3 p4 p5 p6)), (.int p5)])) _
              refine XS.icmpNo X12.here hx rfl (hb hby d1_114) rfl (teq hc114).2 ?_
              show Steps p.tables e below (T12.setTop (mkF m 117 #[.val (.int p1), .val (.int p2), .val (.int p3), .val (.int p4), .val (.int p5), .val (.int p6), .val (.int (f1_l6_44 p1 p2 p3 p4 p5 p6)), .val (.int (f1_s0_73 p1 p2 p3 p4 p5 p6))] [])) _
              refine XS.iconst X12.here hx rfl (hb hby d1_117) ?_
              show Steps p.tables e below (T12.setTop (mkF m 118 #[.val (.int p1), .val (.int p2), .val (.int p3), .val (.int p4), .val (.int p5), .val (.int p6), .val (.int (f1_l6_44 p1 p2 p3 p4 p5 p6)), .val (.int (f1_s0_73 p1 p2 p3 p4 p5 p6))] [(.int (2 : Int32))])) _
              exact retI X12 hx Bd.returns (hb hby d1_118) hr
            · show Q1 Z p1 p2 p3 p4 p5 p6 h0 n0 _ T12.heap _
              rw [e12]
              exact ⟨by rw [eq35], N12, rfl⟩
          · have eq36 : (f1 p1 p2 p3 p4 p5 p6) = (p1 - (1 : Int32)) := by unfold f1; simp only [if_neg hc79, if_neg hc87, if_neg hc94, if_pos hc107, if_neg hc114]
            obtain ⟨fs, hr, hrun, hended, hW, hsame⟩ := X12.leave (v := some (.int (p1 - (1 : Int32)))) (fun h => by rw [Bd.returns] at h; cases h)
            refine ⟨_, _, pre34 _ ?_, hrun, hended, _, _, rfl, ?_, ⟨_, rfl⟩, hW, hsame.mono (by decide) (by decide)⟩
            · show Steps p.tables e below (T12.setTop (mkF m 114 #[.val (.int p1), .val (.int p2), .val (.int p3), .val (.int p4), .val (.int p5), .val (.int p6), .val (.int (f1_l6_44 p1 p2 p3 p4 p5 p6)), .val (.int (f1_s0_73 p1 p2 p3 p4 p5 p6))] [(.int (f1_l6_44 p1 p2 p3 p4 p5 p6)), (.int p5)])) _
              refine XS.icmpYes X12.here hx rfl (pc0 := 114) (pc' := 119) rfl (hb hby d1_114) rfl (feq hc114).2 (by decide) (by decide) ?_
              show Steps p.tables e below (T12.setTop (mkF m 119 #[.val (.int p1), .val (.int p2), .val (.int p3), .val (.int p4), .val (.int p5), .val (.int p6), .val (.int (f1_l6_44 p1 p2 p3 p4 p5 p6)), .val (.int (f1_s0_73 p1 p2 p3 p4 p5 p6))] [])) _
              refine XS.iloadN X12.here hx rfl (hb hby d1_119) rfl ?_
              show Steps p.tables e below (T12.setTop (mkF m 120 #[.val (.int p1), .val (.int p2), .val (.int p3), .val (.int p4), .val (.int p5), .val (.int p6), .val (.int (f1_l6_44 p1 p2 p3 p4 p5 p6)), .val (.int (f1_s0_73 p1 p2 p3 p4 p5 p6))] [(.int p1)])) _
              refine XS.iconst X12.here hx rfl (hb hby d1_120) ?_
              show Steps p.tables e below (T12.setTop (mkF m 121 #[.val (.int p1), .val (.int p2), .val (.int p3), .val (.int p4), .val (.int p5), .val (.int p6), .val (.int (f1_l6_44 p1 p2 p3 p4 p5 p6)), .val (.int (f1_s0_73 p1 p2 p3 p4 p5 p6))] [(.int (1 : Int32)), (.int p1)])) _
              refine XS.isub X12.here hx rfl (hb hby d1_121) rfl ?_
              show Steps p.tables e below (T12.setTop (mkF m 122 #[.val (.int p1), .val (.int p2), .val (.int p3), .val (.int p4), .val (.int p5), .val (.int p6), .val (.int (f1_l6_44 p1 p2 p3 p4 p5 p6)), .val (.int (f1_s0_73 p1 p2 p3 p4 p5 p6))] [(.int (p1 - (1 : Int32)))])) _
              exact retI X12 hx Bd.returns (hb hby d1_122) hr
            · show Q1 Z p1 p2 p3 p4 p5 p6 h0 n0 _ T12.heap _
              rw [e12]
              exact ⟨by rw [eq36], N12, rfl⟩
        · have eq37 : (f1 p1 p2 p3 p4 p5 p6) = (p1 - (1 : Int32)) := by unfold f1; simp only [if_neg hc79, if_neg hc87, if_neg hc94, if_neg hc107]
          obtain ⟨fs, hr, hrun, hended, hW, hsame⟩ := X12.leave (v := some (.int (p1 - (1 : Int32)))) (fun h => by rw [Bd.returns] at h; cases h)
          refine ⟨_, _, pre33 _ ?_, hrun, hended, _, _, rfl, ?_, ⟨_, rfl⟩, hW, hsame.mono (by decide) (by decide)⟩
          · show Steps p.tables e below (T12.setTop (mkF m 107 #[.val (.int p1), .val (.int p2), .val (.int p3), .val (.int p4), .val (.int p5), .val (.int p6), .val (.int (f1_l6_44 p1 p2 p3 p4 p5 p6)), .val (.int (f1_s0_73 p1 p2 p3 p4 p5 p6))] [(.int (2 : Int32)), (.int p1)])) _
            refine XS.icmpYes X12.here hx rfl (pc0 := 107) (pc' := 119) rfl (hb hby d1_107) rfl (flt hc107).2.2.2 (by decide) (by decide) ?_
            show Steps p.tables e below (T12.setTop (mkF m 119 #[.val (.int p1), .val (.int p2), .val (.int p3), .val (.int p4), .val (.int p5), .val (.int p6), .val (.int (f1_l6_44 p1 p2 p3 p4 p5 p6)), .val (.int (f1_s0_73 p1 p2 p3 p4 p5 p6))] [])) _
            refine XS.iloadN X12.here hx rfl (hb hby d1_119) rfl ?_
            show Steps p.tables e below (T12.setTop (mkF m 120 #[.val (.int p1), .val (.int p2), .val (.int p3), .val (.int p4), .val (.int p5), .val (.int p6), .val (.int (f1_l6_44 p1 p2 p3 p4 p5 p6)), .val (.int (f1_s0_73 p1 p2 p3 p4 p5 p6))] [(.int p1)])) _
            refine XS.iconst X12.here hx rfl (hb hby d1_120) ?_
            show Steps p.tables e below (T12.setTop (mkF m 121 #[.val (.int p1), .val (.int p2), .val (.int p3), .val (.int p4), .val (.int p5), .val (.int p6), .val (.int (f1_l6_44 p1 p2 p3 p4 p5 p6)), .val (.int (f1_s0_73 p1 p2 p3 p4 p5 p6))] [(.int (1 : Int32)), (.int p1)])) _
            refine XS.isub X12.here hx rfl (hb hby d1_121) rfl ?_
            show Steps p.tables e below (T12.setTop (mkF m 122 #[.val (.int p1), .val (.int p2), .val (.int p3), .val (.int p4), .val (.int p5), .val (.int p6), .val (.int (f1_l6_44 p1 p2 p3 p4 p5 p6)), .val (.int (f1_s0_73 p1 p2 p3 p4 p5 p6))] [(.int (p1 - (1 : Int32)))])) _
            exact retI X12 hx Bd.returns (hb hby d1_122) hr
          · show Q1 Z p1 p2 p3 p4 p5 p6 h0 n0 _ T12.heap _
            rw [e12]
            exact ⟨by rw [eq37], N12, rfl⟩
theorem pn_1 : plainName "com/example/podflow/podflow/simulation/SamplingVotingPolicy" = true := by first | (simp [plainName, overriddenIn]; done) | decide +kernel
theorem d3_0 : decode prog_66_method_3_code 0 = .ok (.iload_n 0, 1) := by decide +kernel
theorem d3_1 : decode prog_66_method_3_code 1 = .ok (.istore_n 2, 1) := by decide +kernel
theorem d3_2 : decode prog_66_method_3_code 2 = .ok (.iconst 0, 1) := by decide +kernel
theorem d3_3 : decode prog_66_method_3_code 3 = .ok (.istore_n 3, 1) := by decide +kernel
theorem d3_4 : decode prog_66_method_3_code 4 = .ok (.iload_n 3, 1) := by decide +kernel
theorem d3_5 : decode prog_66_method_3_code 5 = .ok (.aload_n 1, 1) := by decide +kernel
theorem d3_6 : decode prog_66_method_3_code 6 = .ok (.arraylength, 1) := by decide +kernel
theorem d3_7 : decode prog_66_method_3_code 7 = .ok (.if_icmp .ge 20, 3) := by decide +kernel
theorem d3_10 : decode prog_66_method_3_code 10 = .ok (.aload_n 1, 1) := by decide +kernel
theorem d3_11 : decode prog_66_method_3_code 11 = .ok (.iload_n 3, 1) := by decide +kernel
theorem d3_12 : decode prog_66_method_3_code 12 = .ok (.iaload, 1) := by decide +kernel
theorem d3_13 : decode prog_66_method_3_code 13 = .ok (.aload_n 1, 1) := by decide +kernel
theorem d3_14 : decode prog_66_method_3_code 14 = .ok (.iload_n 2, 1) := by decide +kernel
theorem d3_15 : decode prog_66_method_3_code 15 = .ok (.iaload, 1) := by decide +kernel
theorem d3_16 : decode prog_66_method_3_code 16 = .ok (.if_icmp .le 5, 3) := by decide +kernel
theorem d3_19 : decode prog_66_method_3_code 19 = .ok (.iload_n 3, 1) := by decide +kernel
theorem d3_20 : decode prog_66_method_3_code 20 = .ok (.istore_n 2, 1) := by decide +kernel
theorem d3_21 : decode prog_66_method_3_code 21 = .ok (.iinc 3 1, 3) := by decide +kernel
theorem d3_24 : decode prog_66_method_3_code 24 = .ok (.goto (-20), 3) := by decide +kernel
theorem d3_27 : decode prog_66_method_3_code 27 = .ok (.iload_n 2, 1) := by decide +kernel
theorem d3_28 : decode prog_66_method_3_code 28 = .ok (.ireturn, 1) := by decide +kernel
theorem ef_3 (m : MethodId) (x0 : Int32) (x1 : Addr) : entryFrame m #[(.int x0), (.ref x1)] 4 = mkF m 0 #[.val (.int x0), .val (.ref x1), .unset, .unset] [] := by first | (simp [entryFrame, mkF, argsToLocals, Value.category]; done) | rfl
def g3_4 (p1 : Int32) (z_a2 : Int32) (c_a2 : Nat → Int32) : Nat → Int32 → Int32 → Int32
  | 0, _, _ => 0
  | k + 1, i2, i3 => (if i3 < z_a2 then (if (c_a2 (i2).toNatClampNeg) < (c_a2 (i3).toNatClampNeg) then (g3_4 p1 z_a2 c_a2 k i3 (i3 + (1 : Int32))) else (g3_4 p1 z_a2 c_a2 k i2 (i3 + (1 : Int32)))) else i2)
def f3 (p1 : Int32) (z_a2 : Int32) (c_a2 : Nat → Int32) : Int32 := (g3_4 p1 z_a2 c_a2 (5) p1 (0 : Int32))
def Q3 (Z : State) (p1 : Int32) (a2 : Addr) (z_a2 : Int32) (c_a2 : Nat → Int32) (h0 : Heap) (n0 : Nat) (v : Option Value) (h : Heap) (L : List Loc) : Prop := v = some (.int (f3 p1 z_a2 c_a2)) ∧ Fr n0 L ∧ h = h0
set_option maxRecDepth 65536 in
set_option maxHeartbeats 40000000 in
theorem rm3 (l : Launch) (Z : State) (a0 : Array Value) (hw : ∀ d ∈ tables_1, d.before a0 Z = true) (ws : List Jvm.Cond) (p1 : Int32) (a2 : Addr) (z_a2 : Int32) (c_a2 : Nat → Int32) (h0 : Heap) (n0 : Nat) (Z0 : n0 ≤ h0.size) (V_a2 : IAr Z h0 a2 .int z_a2 c_a2) (hq1 : 0 ≤ p1.toInt ∧ p1.toInt < z_a2.toInt ∧ z_a2.toInt ≤ 4) :
    MetFree l (⟨"com/example/podflow/podflow/simulation/SamplingVotingPolicy", "winner", "(I[I)I"⟩ : MethodName) (head1 (Jvm.Cond.code (⟨"com/example/podflow/podflow/simulation/SamplingVotingPolicy", "winner", "(I[I)I"⟩ : MethodName) prog_66_method_3_code 4 (some .int) :: ws) ({ frames := 0, cells := 0, slots := 0, locals := 0 } : Room)) (fun a U => a = #[(.int p1), (.ref a2)] ∧ Z.Warmed39 U.vm ∧ U.heap = h0) (fun _ _ _ _ _ => True) (fun _ U o U' => ∃ v L, o = .returned v ∧ Q3 Z p1 a2 z_a2 c_a2 h0 n0 v U'.heap L ∧ FrameEnd U o U' L ({ frames := 0, cells := 0, slots := 0, locals := 0 } : Room).cells ({ frames := 0, cells := 0, slots := 0, locals := 0 } : Room).slots) := by
  refine MetFree.of_bodySF (plainFor_of_name pn_1) hisR ?_
  intro p e s m args below meth c s₁ Bd hml0 hP hK
  obtain ⟨rfl, hZ, hh⟩ := hP
  have hx := Bd.exec
  have hby := Bd.bytes
  have hml : c.maxLocals = 4 := hml0
  have hown : s.vm.findClass "com/example/podflow/podflow/simulation/SamplingVotingPolicy" = some m.cls := findClass_of_methodNamed Bd.named
  have hnm := (name_of_methodNamed Bd.named Bd.method).1
  have X0 : Stand p l e ({ frames := 0, cells := 0, slots := 0, locals := 0 } : Room) s m #[(.int p1), (.ref a2)] below meth c s₁ [] 0 0 := Stand.of_body Bd
  have e0 : s₁.heap = h0 := by rw [← hh, Bd.state]; rfl
  have N0 := Fr.nil n0
  have pre0 : ∀ t, Steps p.tables e below (s₁.setTop (mkF m 0 #[.val (.int p1), .val (.ref a2), .unset, .unset] [])) t → Steps p.tables e below (s₁.setTop (entryFrame m #[(.int p1), (.ref a2)] 4)) t := fun t k => castTop (ef_3 m p1 a2) k
  have pre1 : ∀ t, Steps p.tables e below (s₁.setTop (mkF m 4 #[.val (.int p1), .val (.ref a2), .val (.int p1), .val (.int (0 : Int32))] [])) t → Steps p.tables e below (s₁.setTop (entryFrame m #[(.int p1), (.ref a2)] 4)) t := by
    intro t k
    refine pre0 t ?_
    show Steps p.tables e below (s₁.setTop (mkF m 0 #[.val (.int p1), .val (.ref a2), .unset, .unset] [])) _
    refine XS.iloadN X0.here hx rfl (hb hby d3_0) rfl ?_
    show Steps p.tables e below (s₁.setTop (mkF m 1 #[.val (.int p1), .val (.ref a2), .unset, .unset] [(.int p1)])) _
    refine XS.istoreN X0.here hx rfl (hb hby d3_1) rfl (l' := #[.val (.int p1), .val (.ref a2), .val (.int p1), .unset]) rfl ?_
    show Steps p.tables e below (s₁.setTop (mkF m 2 #[.val (.int p1), .val (.ref a2), .val (.int p1), .unset] [])) _
    refine XS.iconst X0.here hx rfl (hb hby d3_2) ?_
    show Steps p.tables e below (s₁.setTop (mkF m 3 #[.val (.int p1), .val (.ref a2), .val (.int p1), .unset] [(.int (0 : Int32))])) _
    refine XS.istoreN X0.here hx rfl (hb hby d3_3) rfl (l' := #[.val (.int p1), .val (.ref a2), .val (.int p1), .val (.int (0 : Int32))]) rfl ?_
    exact k
  have loop4 : ∀ (k : Nat) (i2 : Int32) (i3 : Int32) (T3 : State) (LT3 : List Loc), 0 ≤ i3.toInt ∧ i3.toInt ≤ z_a2.toInt ∧ 0 ≤ i2.toInt ∧ i2.toInt < z_a2.toInt ∧ z_a2.toInt - i3.toInt < (k : Int) → Stand p l e ({ frames := 0, cells := 0, slots := 0, locals := 0 } : Room) s m #[(.int p1), (.ref a2)] below meth c T3 LT3 0 0 → T3.heap = h0 → Fr n0 LT3 → (g3_4 p1 z_a2 c_a2 k i2 i3) = (f3 p1 z_a2 c_a2) → (∀ t, Steps p.tables e below (T3.setTop (mkF m 4 #[.val (.int p1), .val (.ref a2), .val (.int i2), .val (.int i3)] [])) t → Steps p.tables e below (s₁.setTop (entryFrame m #[(.int p1), (.ref a2)] 4)) t) → ∃ s₂ o, Steps p.tables e below (s₁.setTop (entryFrame m #[(.int p1), (.ref a2)] 4)) s₂ ∧ s₂.status = .running ∧ Ended s₂ below o ∧ ∃ v L, o = .returned v ∧ Q3 Z p1 a2 z_a2 c_a2 h0 n0 v s₂.heap L ∧ FrameEnd s o s₂ L ({ frames := 0, cells := 0, slots := 0, locals := 0 } : Room).cells ({ frames := 0, cells := 0, slots := 0, locals := 0 } : Room).slots := by
    intro k
    induction k with
    | zero => intro i2 i3 T3 LT3 hI X3 e3 N3 hg preL; exact absurd hI (by omega)
    | succ k ih =>
      intro i2 i3 T3 LT3 hI X3 e3 N3 hg preL
      have pre2 : ∀ t, Steps p.tables e below (T3.setTop (mkF m 7 #[.val (.int p1), .val (.ref a2), .val (.int i2), .val (.int i3)] [(.int z_a2), (.int i3)])) t → Steps p.tables e below (s₁.setTop (entryFrame m #[(.int p1), (.ref a2)] 4)) t := by
        intro t k
        refine preL t ?_
        show Steps p.tables e below (T3.setTop (mkF m 4 #[.val (.int p1), .val (.ref a2), .val (.int i2), .val (.int i3)] [])) _
        refine XS.iloadN X3.here hx rfl (hb hby d3_4) rfl ?_
        show Steps p.tables e below (T3.setTop (mkF m 5 #[.val (.int p1), .val (.ref a2), .val (.int i2), .val (.int i3)] [(.int i3)])) _
        refine XS.aloadN X3.here hx rfl (hb hby d3_5) rfl rfl ?_
        show Steps p.tables e below (T3.setTop (mkF m 6 #[.val (.int p1), .val (.ref a2), .val (.int i2), .val (.int i3)] [(.ref a2), (.int i3)])) _
        refine alen X3 hx hZ e3 V_a2 (g := (mkF m 6 #[.val (.int p1), .val (.ref a2), .val (.int i2), .val (.int i3)] [(.ref a2), (.int i3)])) rfl rfl (hb hby d3_6) ?_
        exact k
      by_cases hc7 : i3 < z_a2
      · have pre3 : ∀ t, Steps p.tables e below (T3.setTop (mkF m 16 #[.val (.int p1), .val (.ref a2), .val (.int i2), .val (.int i3)] [(.int (c_a2 (i2).toNatClampNeg)), (.int (c_a2 (i3).toNatClampNeg))])) t → Steps p.tables e below (s₁.setTop (entryFrame m #[(.int p1), (.ref a2)] 4)) t := by
          intro t k
          refine pre2 t ?_
          show Steps p.tables e below (T3.setTop (mkF m 7 #[.val (.int p1), .val (.ref a2), .val (.int i2), .val (.int i3)] [(.int z_a2), (.int i3)])) _
          refine XS.icmpNo X3.here hx rfl (hb hby d3_7) rfl (tlt hc7).2.1 ?_
          show Steps p.tables e below (T3.setTop (mkF m 10 #[.val (.int p1), .val (.ref a2), .val (.int i2), .val (.int i3)] [])) _
          refine XS.aloadN X3.here hx rfl (hb hby d3_10) rfl rfl ?_
          show Steps p.tables e below (T3.setTop (mkF m 11 #[.val (.int p1), .val (.ref a2), .val (.int i2), .val (.int i3)] [(.ref a2)])) _
          refine XS.iloadN X3.here hx rfl (hb hby d3_11) rfl ?_
          show Steps p.tables e below (T3.setTop (mkF m 12 #[.val (.int p1), .val (.ref a2), .val (.int i2), .val (.int i3)] [(.int i3), (.ref a2)])) _
          refine ldI X3 hx hZ e3 V_a2 (j := i3) (own_in hI hc7) (g := (mkF m 12 #[.val (.int p1), .val (.ref a2), .val (.int i2), .val (.int i3)] [(.int i3), (.ref a2)])) rfl rfl (hb hby d3_12) ?_
          show Steps p.tables e below (T3.setTop (mkF m 13 #[.val (.int p1), .val (.ref a2), .val (.int i2), .val (.int i3)] [(.int (c_a2 (i3).toNatClampNeg))])) _
          refine XS.aloadN X3.here hx rfl (hb hby d3_13) rfl rfl ?_
          show Steps p.tables e below (T3.setTop (mkF m 14 #[.val (.int p1), .val (.ref a2), .val (.int i2), .val (.int i3)] [(.ref a2), (.int (c_a2 (i3).toNatClampNeg))])) _
          refine XS.iloadN X3.here hx rfl (hb hby d3_14) rfl ?_
          show Steps p.tables e below (T3.setTop (mkF m 15 #[.val (.int p1), .val (.ref a2), .val (.int i2), .val (.int i3)] [(.int i2), (.ref a2), (.int (c_a2 (i3).toNatClampNeg))])) _
          refine ldI X3 hx hZ e3 V_a2 (j := i2) (own_inb hI) (g := (mkF m 15 #[.val (.int p1), .val (.ref a2), .val (.int i2), .val (.int i3)] [(.int i2), (.ref a2), (.int (c_a2 (i3).toNatClampNeg))])) rfl rfl (hb hby d3_15) ?_
          exact k
        by_cases hc16 : (c_a2 (i2).toNatClampNeg) < (c_a2 (i3).toNatClampNeg)
        · have eq4 : (f3 p1 z_a2 c_a2) = (g3_4 p1 z_a2 c_a2 k i3 (i3 + (1 : Int32))) := by rw [← hg]; simp only [g3_4, if_pos hc7, if_pos hc16]
          have pre5 : ∀ t, Steps p.tables e below (T3.setTop (mkF m 4 #[.val (.int p1), .val (.ref a2), .val (.int i3), .val (.int (i3 + (1 : Int32)))] [])) t → Steps p.tables e below (s₁.setTop (entryFrame m #[(.int p1), (.ref a2)] 4)) t := by
            intro t k
            refine pre3 t ?_
            show Steps p.tables e below (T3.setTop (mkF m 16 #[.val (.int p1), .val (.ref a2), .val (.int i2), .val (.int i3)] [(.int (c_a2 (i2).toNatClampNeg)), (.int (c_a2 (i3).toNatClampNeg))])) _
            refine XS.icmpNo X3.here hx rfl (hb hby d3_16) rfl (tlt hc16).2.2.2 ?_
            show Steps p.tables e below (T3.setTop (mkF m 19 #[.val (.int p1), .val (.ref a2), .val (.int i2), .val (.int i3)] [])) _
            refine XS.iloadN X3.here hx rfl (hb hby d3_19) rfl ?_
            show Steps p.tables e below (T3.setTop (mkF m 20 #[.val (.int p1), .val (.ref a2), .val (.int i2), .val (.int i3)] [(.int i3)])) _
            refine XS.istoreN X3.here hx rfl (hb hby d3_20) rfl (l' := #[.val (.int p1), .val (.ref a2), .val (.int i3), .val (.int i3)]) rfl ?_
            show Steps p.tables e below (T3.setTop (mkF m 21 #[.val (.int p1), .val (.ref a2), .val (.int i3), .val (.int i3)] [])) _
            refine XS.iinc X3.here hx rfl (hb hby d3_21) rfl (l' := #[.val (.int p1), .val (.ref a2), .val (.int i3), .val (.int (i3 + (1 : Int32)))]) rfl ?_
            show Steps p.tables e below (T3.setTop (mkF m 24 #[.val (.int p1), .val (.ref a2), .val (.int i3), .val (.int (i3 + (1 : Int32)))] [])) _
            refine XS.goto X3.here hx rfl (pc0 := 24) (pc' := 4) rfl (hb hby d3_24) (by decide) (by decide) ?_
            exact k
          exact ih i3 (i3 + (1 : Int32)) T3 _  (own_step hI hc7 (by first | exact Or.inl rfl | exact Or.inr rfl)) X3 e3 N3  (eq4).symm pre5
        · have eq6 : (f3 p1 z_a2 c_a2) = (g3_4 p1 z_a2 c_a2 k i2 (i3 + (1 : Int32))) := by rw [← hg]; simp only [g3_4, if_pos hc7, if_neg hc16]
          have pre7 : ∀ t, Steps p.tables e below (T3.setTop (mkF m 4 #[.val (.int p1), .val (.ref a2), .val (.int i2), .val (.int (i3 + (1 : Int32)))] [])) t → Steps p.tables e below (s₁.setTop (entryFrame m #[(.int p1), (.ref a2)] 4)) t := by
            intro t k
            refine pre3 t ?_
            show Steps p.tables e below (T3.setTop (mkF m 16 #[.val (.int p1), .val (.ref a2), .val (.int i2), .val (.int i3)] [(.int (c_a2 (i2).toNatClampNeg)), (.int (c_a2 (i3).toNatClampNeg))])) _
            refine XS.icmpYes X3.here hx rfl (pc0 := 16) (pc' := 21) rfl (hb hby d3_16) rfl (flt hc16).2.2.2 (by decide) (by decide) ?_
            show Steps p.tables e below (T3.setTop (mkF m 21 #[.val (.int p1), .val (.ref a2), .val (.int i2), .val (.int i3)] [])) _
            refine XS.iinc X3.here hx rfl (hb hby d3_21) rfl (l' := #[.val (.int p1), .val (.ref a2), .val (.int i2), .val (.int (i3 + (1 : Int32)))]) rfl ?_
            show Steps p.tables e below (T3.setTop (mkF m 24 #[.val (.int p1), .val (.ref a2), .val (.int i2), .val (.int (i3 + (1 : Int32)))] [])) _
            refine XS.goto X3.here hx rfl (pc0 := 24) (pc' := 4) rfl (hb hby d3_24) (by decide) (by decide) ?_
            exact k
          exact ih i2 (i3 + (1 : Int32)) T3 _  (own_step hI hc7 (by first | exact Or.inl rfl | exact Or.inr rfl)) X3 e3 N3  (eq6).symm pre7
      · have eq8 : (f3 p1 z_a2 c_a2) = i2 := by rw [← hg]; simp only [g3_4, if_neg hc7]
        obtain ⟨fs, hr, hrun, hended, hW, hsame⟩ := X3.leave (v := some (.int i2)) (fun h => by rw [Bd.returns] at h; cases h)
        refine ⟨_, _, pre2 _ ?_, hrun, hended, _, _, rfl, ?_, ⟨_, rfl⟩, hW, hsame.mono (by decide) (by decide)⟩
        · show Steps p.tables e below (T3.setTop (mkF m 7 #[.val (.int p1), .val (.ref a2), .val (.int i2), .val (.int i3)] [(.int z_a2), (.int i3)])) _
          refine XS.icmpYes X3.here hx rfl (pc0 := 7) (pc' := 27) rfl (hb hby d3_7) rfl (flt hc7).2.1 (by decide) (by decide) ?_
          show Steps p.tables e below (T3.setTop (mkF m 27 #[.val (.int p1), .val (.ref a2), .val (.int i2), .val (.int i3)] [])) _
          refine XS.iloadN X3.here hx rfl (hb hby d3_27) rfl ?_
          show Steps p.tables e below (T3.setTop (mkF m 28 #[.val (.int p1), .val (.ref a2), .val (.int i2), .val (.int i3)] [(.int i2)])) _
          exact retI X3 hx Bd.returns (hb hby d3_28) hr
        · show Q3 Z p1 a2 z_a2 c_a2 h0 n0 _ T3.heap _
          rw [e3]
          exact ⟨by rw [eq8], N3, rfl⟩
  exact loop4 5 p1 (0 : Int32) s₁ _  (own_init hq1) X0 e0 N0 (rfl) pre1
theorem pd_1 : parseMethodDescriptor "(IIIIII)I" = some ⟨[.int, .int, .int, .int, .int, .int], some .int⟩ := by decide +kernel
theorem pd_2 : parseMethodDescriptor "(I[I)I" = some ⟨[.int, (.array .int)], some .int⟩ := by decide +kernel
theorem ef_0 (m : MethodId) (x0 : Int32) (x1 : Int32) (x2 : Int32) (x3 : Int32) (x4 : Int32) (x5 : Int32) : entryFrame m #[(.int x0), (.int x1), (.int x2), (.int x3), (.int x4), (.int x5)] maxLocals = mkF m 0 #[.val (.int x0), .val (.int x1), .val (.int x2), .val (.int x3), .val (.int x4), .val (.int x5), .unset, .unset, .unset, .unset, .unset] [] := by first | (simp [entryFrame, mkF, argsToLocals, Value.category, maxLocals]; done) | rfl
def f0_v13 (p1 : Int32) (p2 : Int32) (p3 : Int32) (p4 : Int32) (p5 : Int32) (p6 : Int32) : Int32 := ((p1 &&& (2147483647 : Int32)) - ((p1 &&& (2147483647 : Int32)) / ((1 : Int32) + (p2 &&& (3 : Int32)))) * ((1 : Int32) + (p2 &&& (3 : Int32))))
def f0_v26 (p1 : Int32) (p2 : Int32) (p3 : Int32) (p4 : Int32) (p5 : Int32) (p6 : Int32) : Nat → Int32 := (ownU (fun _ => 0) ((0 : Int32)).toNatClampNeg p3)
def f0_v37 (p1 : Int32) (p2 : Int32) (p3 : Int32) (p4 : Int32) (p5 : Int32) (p6 : Int32) : Nat → Int32 := (ownU (f0_v26 p1 p2 p3 p4 p5 p6) ((1 : Int32)).toNatClampNeg p4)
def f0_A_b7_38 (p1 : Int32) (p2 : Int32) (p3 : Int32) (p4 : Int32) (p5 : Int32) (p6 : Int32) : Nat → Int32 := (if (1 : Int32) < ((1 : Int32) + (p2 &&& (3 : Int32))) then (f0_v37 p1 p2 p3 p4 p5 p6) else (f0_v26 p1 p2 p3 p4 p5 p6))
def f0_v49 (p1 : Int32) (p2 : Int32) (p3 : Int32) (p4 : Int32) (p5 : Int32) (p6 : Int32) : Nat → Int32 := (ownU (f0_A_b7_38 p1 p2 p3 p4 p5 p6) ((2 : Int32)).toNatClampNeg p5)
def f0_A_b7_50 (p1 : Int32) (p2 : Int32) (p3 : Int32) (p4 : Int32) (p5 : Int32) (p6 : Int32) : Nat → Int32 := (if (2 : Int32) < ((1 : Int32) + (p2 &&& (3 : Int32))) then (f0_v49 p1 p2 p3 p4 p5 p6) else (f0_A_b7_38 p1 p2 p3 p4 p5 p6))
def f0_v61 (p1 : Int32) (p2 : Int32) (p3 : Int32) (p4 : Int32) (p5 : Int32) (p6 : Int32) : Nat → Int32 := (ownU (f0_A_b7_50 p1 p2 p3 p4 p5 p6) ((3 : Int32)).toNatClampNeg p6)
def f0_A_b7_62 (p1 : Int32) (p2 : Int32) (p3 : Int32) (p4 : Int32) (p5 : Int32) (p6 : Int32) : Nat → Int32 := (if (3 : Int32) < ((1 : Int32) + (p2 &&& (3 : Int32))) then (f0_v61 p1 p2 p3 p4 p5 p6) else (f0_A_b7_50 p1 p2 p3 p4 p5 p6))
def f0_v84 (p1 : Int32) (p2 : Int32) (p3 : Int32) (p4 : Int32) (p5 : Int32) (p6 : Int32) : Int32 := (f3 (f0_v13 p1 p2 p3 p4 p5 p6) ((1 : Int32) + (p2 &&& (3 : Int32))) (f0_A_b7_62 p1 p2 p3 p4 p5 p6))
theorem own_hq (a b c d e g : Int32) : 0 ≤ (f0_v13 a b c d e g).toInt ∧ (f0_v13 a b c d e g).toInt < ((1 : Int32) + (b &&& 3)).toInt ∧ ((1 : Int32) + (b &&& 3)).toInt ≤ 4 := by
  have h1 := own_n b
  unfold f0_v13
  rw [own_rem]
  have h3 := c_mask a 2147483647 31 (by decide) (by decide)
  have h4 := (c_iremV (a &&& 2147483647) (1 + (b &&& 3))).1 (by omega) (by omega)
  omega
def f0 (p1 : Int32) (p2 : Int32) (p3 : Int32) (p4 : Int32) (p5 : Int32) (p6 : Int32) : Int32 := (if (f0_v84 p1 p2 p3 p4 p5 p6) = (f1 ((1 : Int32) + (p2 &&& (3 : Int32))) (f0_v13 p1 p2 p3 p4 p5 p6) p3 p4 p5 p6) then (1 : Int32) else (0 : Int32))
def Q0 (Z : State) (p1 : Int32) (p2 : Int32) (p3 : Int32) (p4 : Int32) (p5 : Int32) (p6 : Int32) (h0 : Heap) (n0 : Nat) (v : Option Value) (h : Heap) (L : List Loc) : Prop := v = some (.int (f0 p1 p2 p3 p4 p5 p6)) ∧ Fr n0 L ∧ True
set_option maxRecDepth 65536 in
set_option maxHeartbeats 40000000 in
theorem rm0 (l : Launch) (Z : State) (a0 : Array Value) (hw : ∀ d ∈ tables_1, d.before a0 Z = true) (ws : List Jvm.Cond) (p1 : Int32) (p2 : Int32) (p3 : Int32) (p4 : Int32) (p5 : Int32) (p6 : Int32) (h0 : Heap) (n0 : Nat) (Z0 : n0 ≤ h0.size) :
    MetFree l x (head1 (Jvm.Cond.code x code maxLocals ret :: ws) room_1) (fun a U => a = #[(.int p1), (.int p2), (.int p3), (.int p4), (.int p5), (.int p6)] ∧ Z.Warmed39 U.vm ∧ U.heap = h0) (fun _ _ _ _ _ => True) (fun _ U o U' => ∃ v L, o = .returned v ∧ Q0 Z p1 p2 p3 p4 p5 p6 h0 n0 v U'.heap L ∧ FrameEnd U o U' L room_1.cells room_1.slots) := by
  refine MetFree.of_bodySF (plainFor_of_name pn_0) hisR ?_
  intro p e s m args below meth c s₁ Bd hml0 hP hK
  obtain ⟨rfl, hZ, hh⟩ := hP
  have hx := Bd.exec
  have hby := Bd.bytes
  have hml : c.maxLocals = 11 := hml0
  have hown : s.vm.findClass "com/example/podflow/podflow/simulation/SamplingVotingPolicyWinnerPinLaw" = some m.cls := findClass_of_methodNamed Bd.named
  have hnm := (name_of_methodNamed Bd.named Bd.method).1
  have X0 : Stand p l e room_1 s m #[(.int p1), (.int p2), (.int p3), (.int p4), (.int p5), (.int p6)] below meth c s₁ [] 0 0 := Stand.of_body Bd
  have e0 : s₁.heap = h0 := by rw [← hh, Bd.state]; rfl
  have N0 := Fr.nil n0
  have pre0 : ∀ t, Steps p.tables e below (s₁.setTop (mkF m 0 #[.val (.int p1), .val (.int p2), .val (.int p3), .val (.int p4), .val (.int p5), .val (.int p6), .unset, .unset, .unset, .unset, .unset] [])) t → Steps p.tables e below (s₁.setTop (entryFrame m #[(.int p1), (.int p2), (.int p3), (.int p4), (.int p5), (.int p6)] maxLocals)) t := fun t k => castTop (ef_0 m p1 p2 p3 p4 p5 p6) k
  obtain ⟨T7, h7, k7, X7, e7, E7, A7, st7⟩ := newP X0 hx hZ (hw _ (List.mem_of_getElem? (i := 1) rfl)) e0 (g := (mkF m 18 #[.val (.int p1), .val (.int p2), .val (.int p3), .val (.int p4), .val (.int p5), .val (.int p6), .val (.int ((1 : Int32) + (p2 &&& (3 : Int32)))), .val (.int (f0_v13 p1 p2 p3 p4 p5 p6)), .unset, .unset, .unset] [(.int ((1 : Int32) + (p2 &&& (3 : Int32))))])) rfl (hb hby at_18) rfl (own_neg p2) (cap := 4) (own_cap p2) (by decide) (by decide) (by decide)
  obtain ⟨b7, g7⟩ : ∃ z, z = h0.size := ⟨_, rfl⟩
  rw [← g7] at A7 st7
  have g_b7 : n0 ≤ b7 := Nat.le_trans Z0 (Nat.le_of_eq g7.symm)
  have c8 : n0 ≤ h7.size := Nat.le_trans Z0 E7.1
  have c9 : IAr Z h7 b7 .int ((1 : Int32) + (p2 &&& (3 : Int32))) (fun _ => 0) := IAr.new A7 (own_neg p2) rfl
  obtain ⟨T10, h10, X10, e10, W10, V10, st10⟩ := sI X7 hx hZ e7 c9 (j := (0 : Int32)) ⟨by decide, own_pos p2⟩ (g := (mkF m 26 #[.val (.int p1), .val (.int p2), .val (.int p3), .val (.int p4), .val (.int p5), .val (.int p6), .val (.int ((1 : Int32) + (p2 &&& (3 : Int32)))), .val (.int (f0_v13 p1 p2 p3 p4 p5 p6)), .val (.ref b7), .unset, .unset] [(.int p3), (.int (0 : Int32)), (.ref b7)])) rfl rfl (hb hby at_26)
  have N10 := Fr.snoc X10 N0 g_b7
  have c11 : n0 ≤ h10.size := Nat.le_trans c8 (Keep.of_wr W10).1
  have c12 : IAr Z h10 b7 .int ((1 : Int32) + (p2 &&& (3 : Int32))) (f0_v26 p1 p2 p3 p4 p5 p6) := V10
  have pre1 : ∀ t, Steps p.tables e below (T10.setTop (mkF m 30 #[.val (.int p1), .val (.int p2), .val (.int p3), .val (.int p4), .val (.int p5), .val (.int p6), .val (.int ((1 : Int32) + (p2 &&& (3 : Int32)))), .val (.int (f0_v13 p1 p2 p3 p4 p5 p6)), .val (.ref b7), .unset, .unset] [(.int (1 : Int32)), (.int ((1 : Int32) + (p2 &&& (3 : Int32))))])) t → Steps p.tables e below (s₁.setTop (entryFrame m #[(.int p1), (.int p2), (.int p3), (.int p4), (.int p5), (.int p6)] maxLocals)) t := by
    intro t k
    refine pre0 t ?_
    show Steps p.tables e below (s₁.setTop (mkF m 0 #[.val (.int p1), .val (.int p2), .val (.int p3), .val (.int p4), .val (.int p5), .val (.int p6), .unset, .unset, .unset, .unset, .unset] [])) _
    refine XS.iconst X0.here hx rfl (hb hby at_0) ?_
    show Steps p.tables e below (s₁.setTop (mkF m 1 #[.val (.int p1), .val (.int p2), .val (.int p3), .val (.int p4), .val (.int p5), .val (.int p6), .unset, .unset, .unset, .unset, .unset] [(.int (1 : Int32))])) _
    refine XS.iloadN X0.here hx rfl (hb hby at_1) rfl ?_
    show Steps p.tables e below (s₁.setTop (mkF m 2 #[.val (.int p1), .val (.int p2), .val (.int p3), .val (.int p4), .val (.int p5), .val (.int p6), .unset, .unset, .unset, .unset, .unset] [(.int p2), (.int (1 : Int32))])) _
    refine XS.iconst X0.here hx rfl (hb hby at_2) ?_
    show Steps p.tables e below (s₁.setTop (mkF m 3 #[.val (.int p1), .val (.int p2), .val (.int p3), .val (.int p4), .val (.int p5), .val (.int p6), .unset, .unset, .unset, .unset, .unset] [(.int (3 : Int32)), (.int p2), (.int (1 : Int32))])) _
    refine XS.iand X0.here hx rfl (hb hby at_3) rfl ?_
    show Steps p.tables e below (s₁.setTop (mkF m 4 #[.val (.int p1), .val (.int p2), .val (.int p3), .val (.int p4), .val (.int p5), .val (.int p6), .unset, .unset, .unset, .unset, .unset] [(.int (p2 &&& (3 : Int32))), (.int (1 : Int32))])) _
    refine XS.iadd X0.here hx rfl (hb hby at_4) rfl ?_
    show Steps p.tables e below (s₁.setTop (mkF m 5 #[.val (.int p1), .val (.int p2), .val (.int p3), .val (.int p4), .val (.int p5), .val (.int p6), .unset, .unset, .unset, .unset, .unset] [(.int ((1 : Int32) + (p2 &&& (3 : Int32))))])) _
    refine XS.istore X0.here hx rfl (hb hby at_5) rfl (l' := #[.val (.int p1), .val (.int p2), .val (.int p3), .val (.int p4), .val (.int p5), .val (.int p6), .val (.int ((1 : Int32) + (p2 &&& (3 : Int32)))), .unset, .unset, .unset, .unset]) rfl ?_
    show Steps p.tables e below (s₁.setTop (mkF m 7 #[.val (.int p1), .val (.int p2), .val (.int p3), .val (.int p4), .val (.int p5), .val (.int p6), .val (.int ((1 : Int32) + (p2 &&& (3 : Int32)))), .unset, .unset, .unset, .unset] [])) _
    refine XS.iloadN X0.here hx rfl (hb hby at_7) rfl ?_
    show Steps p.tables e below (s₁.setTop (mkF m 8 #[.val (.int p1), .val (.int p2), .val (.int p3), .val (.int p4), .val (.int p5), .val (.int p6), .val (.int ((1 : Int32) + (p2 &&& (3 : Int32)))), .unset, .unset, .unset, .unset] [(.int p1)])) _
    refine X0.ldcInt hx hown (mvT hZ (hw _ (List.mem_of_getElem? (i := 0) rfl))) (g := (mkF m 8 #[.val (.int p1), .val (.int p2), .val (.int p3), .val (.int p4), .val (.int p5), .val (.int p6), .val (.int ((1 : Int32) + (p2 &&& (3 : Int32)))), .unset, .unset, .unset, .unset] [(.int p1)])) rfl (hb hby at_8) _ ?_
    show Steps p.tables e below (s₁.setTop (mkF m 10 #[.val (.int p1), .val (.int p2), .val (.int p3), .val (.int p4), .val (.int p5), .val (.int p6), .val (.int ((1 : Int32) + (p2 &&& (3 : Int32)))), .unset, .unset, .unset, .unset] [(.int (2147483647 : Int32)), (.int p1)])) _
    refine XS.iand X0.here hx rfl (hb hby at_10) rfl ?_
    show Steps p.tables e below (s₁.setTop (mkF m 11 #[.val (.int p1), .val (.int p2), .val (.int p3), .val (.int p4), .val (.int p5), .val (.int p6), .val (.int ((1 : Int32) + (p2 &&& (3 : Int32)))), .unset, .unset, .unset, .unset] [(.int (p1 &&& (2147483647 : Int32)))])) _
    refine XS.iload X0.here hx rfl (hb hby at_11) rfl ?_
    show Steps p.tables e below (s₁.setTop (mkF m 13 #[.val (.int p1), .val (.int p2), .val (.int p3), .val (.int p4), .val (.int p5), .val (.int p6), .val (.int ((1 : Int32) + (p2 &&& (3 : Int32)))), .unset, .unset, .unset, .unset] [(.int ((1 : Int32) + (p2 &&& (3 : Int32)))), (.int (p1 &&& (2147483647 : Int32)))])) _
    refine XS.irem X0.here hx rfl (hb hby at_13) rfl (own_nz p2) ?_
    show Steps p.tables e below (s₁.setTop (mkF m 14 #[.val (.int p1), .val (.int p2), .val (.int p3), .val (.int p4), .val (.int p5), .val (.int p6), .val (.int ((1 : Int32) + (p2 &&& (3 : Int32)))), .unset, .unset, .unset, .unset] [(.int (f0_v13 p1 p2 p3 p4 p5 p6))])) _
    refine XS.istore X0.here hx rfl (hb hby at_14) rfl (l' := #[.val (.int p1), .val (.int p2), .val (.int p3), .val (.int p4), .val (.int p5), .val (.int p6), .val (.int ((1 : Int32) + (p2 &&& (3 : Int32)))), .val (.int (f0_v13 p1 p2 p3 p4 p5 p6)), .unset, .unset, .unset]) rfl ?_
    show Steps p.tables e below (s₁.setTop (mkF m 16 #[.val (.int p1), .val (.int p2), .val (.int p3), .val (.int p4), .val (.int p5), .val (.int p6), .val (.int ((1 : Int32) + (p2 &&& (3 : Int32)))), .val (.int (f0_v13 p1 p2 p3 p4 p5 p6)), .unset, .unset, .unset] [])) _
    refine XS.iload X0.here hx rfl (hb hby at_16) rfl ?_
    show Steps p.tables e below (s₁.setTop (mkF m 18 #[.val (.int p1), .val (.int p2), .val (.int p3), .val (.int p4), .val (.int p5), .val (.int p6), .val (.int ((1 : Int32) + (p2 &&& (3 : Int32)))), .val (.int (f0_v13 p1 p2 p3 p4 p5 p6)), .unset, .unset, .unset] [(.int ((1 : Int32) + (p2 &&& (3 : Int32))))])) _
    refine st7 _ ?_
    show Steps p.tables e below (T7.setTop (mkF m 20 #[.val (.int p1), .val (.int p2), .val (.int p3), .val (.int p4), .val (.int p5), .val (.int p6), .val (.int ((1 : Int32) + (p2 &&& (3 : Int32)))), .val (.int (f0_v13 p1 p2 p3 p4 p5 p6)), .unset, .unset, .unset] [(.ref b7)])) _
    refine XS.astore X7.here hx rfl (hb hby at_20) rfl rfl (l' := #[.val (.int p1), .val (.int p2), .val (.int p3), .val (.int p4), .val (.int p5), .val (.int p6), .val (.int ((1 : Int32) + (p2 &&& (3 : Int32)))), .val (.int (f0_v13 p1 p2 p3 p4 p5 p6)), .val (.ref b7), .unset, .unset]) rfl ?_
    show Steps p.tables e below (T7.setTop (mkF m 22 #[.val (.int p1), .val (.int p2), .val (.int p3), .val (.int p4), .val (.int p5), .val (.int p6), .val (.int ((1 : Int32) + (p2 &&& (3 : Int32)))), .val (.int (f0_v13 p1 p2 p3 p4 p5 p6)), .val (.ref b7), .unset, .unset] [])) _
    refine XS.aload X7.here hx rfl (hb hby at_22) rfl rfl ?_
    show Steps p.tables e below (T7.setTop (mkF m 24 #[.val (.int p1), .val (.int p2), .val (.int p3), .val (.int p4), .val (.int p5), .val (.int p6), .val (.int ((1 : Int32) + (p2 &&& (3 : Int32)))), .val (.int (f0_v13 p1 p2 p3 p4 p5 p6)), .val (.ref b7), .unset, .unset] [(.ref b7)])) _
    refine XS.iconst X7.here hx rfl (hb hby at_24) ?_
    show Steps p.tables e below (T7.setTop (mkF m 25 #[.val (.int p1), .val (.int p2), .val (.int p3), .val (.int p4), .val (.int p5), .val (.int p6), .val (.int ((1 : Int32) + (p2 &&& (3 : Int32)))), .val (.int (f0_v13 p1 p2 p3 p4 p5 p6)), .val (.ref b7), .unset, .unset] [(.int (0 : Int32)), (.ref b7)])) _
    refine XS.iloadN X7.here hx rfl (hb hby at_25) rfl ?_
    show Steps p.tables e below (T7.setTop (mkF m 26 #[.val (.int p1), .val (.int p2), .val (.int p3), .val (.int p4), .val (.int p5), .val (.int p6), .val (.int ((1 : Int32) + (p2 &&& (3 : Int32)))), .val (.int (f0_v13 p1 p2 p3 p4 p5 p6)), .val (.ref b7), .unset, .unset] [(.int p3), (.int (0 : Int32)), (.ref b7)])) _
    refine st10 _ ?_
    show Steps p.tables e below (T10.setTop (mkF m 27 #[.val (.int p1), .val (.int p2), .val (.int p3), .val (.int p4), .val (.int p5), .val (.int p6), .val (.int ((1 : Int32) + (p2 &&& (3 : Int32)))), .val (.int (f0_v13 p1 p2 p3 p4 p5 p6)), .val (.ref b7), .unset, .unset] [])) _
    refine XS.iload X10.here hx rfl (hb hby at_27) rfl ?_
    show Steps p.tables e below (T10.setTop (mkF m 29 #[.val (.int p1), .val (.int p2), .val (.int p3), .val (.int p4), .val (.int p5), .val (.int p6), .val (.int ((1 : Int32) + (p2 &&& (3 : Int32)))), .val (.int (f0_v13 p1 p2 p3 p4 p5 p6)), .val (.ref b7), .unset, .unset] [(.int ((1 : Int32) + (p2 &&& (3 : Int32))))])) _
    refine XS.iconst X10.here hx rfl (hb hby at_29) ?_
    exact k
  obtain ⟨T19, Lmpre2, h16, X19, e19, N19, c17, c18, pre2⟩ : ∃ (T' : State) (L' : List Loc) (h16 : Heap), Stand p l e room_1 s m #[(.int p1), (.int p2), (.int p3), (.int p4), (.int p5), (.int p6)] below meth c T' L' 1 4 ∧ T'.heap = h16 ∧ Fr n0 L' ∧ n0 ≤ h16.size ∧ IAr Z h16 b7 .int ((1 : Int32) + (p2 &&& (3 : Int32))) (f0_A_b7_38 p1 p2 p3 p4 p5 p6) ∧ ∀ t, Steps p.tables e below (T'.setTop (mkF m 38 #[.val (.int p1), .val (.int p2), .val (.int p3), .val (.int p4), .val (.int p5), .val (.int p6), .val (.int ((1 : Int32) + (p2 &&& (3 : Int32)))), .val (.int (f0_v13 p1 p2 p3 p4 p5 p6)), .val (.ref b7), .unset, .unset] [])) t → Steps p.tables e below (s₁.setTop (entryFrame m #[(.int p1), (.int p2), (.int p3), (.int p4), (.int p5), (.int p6)] maxLocals)) t := by
    by_cases hc30 : (1 : Int32) < ((1 : Int32) + (p2 &&& (3 : Int32)))
    · obtain ⟨T13, h13, X13, e13, W13, V13, st13⟩ := sI X10 hx hZ e10 c12 (j := (1 : Int32)) ⟨by decide, by first | decide | assumption⟩ (g := (mkF m 37 #[.val (.int p1), .val (.int p2), .val (.int p3), .val (.int p4), .val (.int p5), .val (.int p6), .val (.int ((1 : Int32) + (p2 &&& (3 : Int32)))), .val (.int (f0_v13 p1 p2 p3 p4 p5 p6)), .val (.ref b7), .unset, .unset] [(.int p4), (.int (1 : Int32)), (.ref b7)])) rfl rfl (hb hby at_37)
      have N13 := Fr.snoc X13 N10 g_b7
      have c14 : n0 ≤ h13.size := Nat.le_trans c11 (Keep.of_wr W13).1
      have c15 : IAr Z h13 b7 .int ((1 : Int32) + (p2 &&& (3 : Int32))) (f0_v37 p1 p2 p3 p4 p5 p6) := V13
      have eq3 := (show (f0_A_b7_38 p1 p2 p3 p4 p5 p6) = (f0_v37 p1 p2 p3 p4 p5 p6) from by unfold f0_A_b7_38; simp only [if_pos hc30])
      refine ⟨T13, _, h13, X13, e13, N13, c14, (by simp only [eq3]; exact c15), fun t k => ?_⟩
      try rw [eq3] at k
      refine pre1 t ?_
      show Steps p.tables e below (T10.setTop (mkF m 30 #[.val (.int p1), .val (.int p2), .val (.int p3), .val (.int p4), .val (.int p5), .val (.int p6), .val (.int ((1 : Int32) + (p2 &&& (3 : Int32)))), .val (.int (f0_v13 p1 p2 p3 p4 p5 p6)), .val (.ref b7), .unset, .unset] [(.int (1 : Int32)), (.int ((1 : Int32) + (p2 &&& (3 : Int32))))])) _
      refine XS.icmpNo X10.here hx rfl (hb hby at_30) rfl (tlt hc30).2.2.2 ?_
      show Steps p.tables e below (T10.setTop (mkF m 33 #[.val (.int p1), .val (.int p2), .val (.int p3), .val (.int p4), .val (.int p5), .val (.int p6), .val (.int ((1 : Int32) + (p2 &&& (3 : Int32)))), .val (.int (f0_v13 p1 p2 p3 p4 p5 p6)), .val (.ref b7), .unset, .unset] [])) _
      refine XS.aload X10.here hx rfl (hb hby at_33) rfl rfl ?_
      show Steps p.tables e below (T10.setTop (mkF m 35 #[.val (.int p1), .val (.int p2), .val (.int p3), .val (.int p4), .val (.int p5), .val (.int p6), .val (.int ((1 : Int32) + (p2 &&& (3 : Int32)))), .val (.int (f0_v13 p1 p2 p3 p4 p5 p6)), .val (.ref b7), .unset, .unset] [(.ref b7)])) _
      refine XS.iconst X10.here hx rfl (hb hby at_35) ?_
      show Steps p.tables e below (T10.setTop (mkF m 36 #[.val (.int p1), .val (.int p2), .val (.int p3), .val (.int p4), .val (.int p5), .val (.int p6), .val (.int ((1 : Int32) + (p2 &&& (3 : Int32)))), .val (.int (f0_v13 p1 p2 p3 p4 p5 p6)), .val (.ref b7), .unset, .unset] [(.int (1 : Int32)), (.ref b7)])) _
      refine XS.iloadN X10.here hx rfl (hb hby at_36) rfl ?_
      show Steps p.tables e below (T10.setTop (mkF m 37 #[.val (.int p1), .val (.int p2), .val (.int p3), .val (.int p4), .val (.int p5), .val (.int p6), .val (.int ((1 : Int32) + (p2 &&& (3 : Int32)))), .val (.int (f0_v13 p1 p2 p3 p4 p5 p6)), .val (.ref b7), .unset, .unset] [(.int p4), (.int (1 : Int32)), (.ref b7)])) _
      refine st13 _ ?_
      exact k
    · have eq4 := (show (f0_A_b7_38 p1 p2 p3 p4 p5 p6) = (f0_v26 p1 p2 p3 p4 p5 p6) from by unfold f0_A_b7_38; simp only [if_neg hc30])
      refine ⟨T10, _, h10, X10, e10, N10, c11, (by simp only [eq4]; exact c12), fun t k => ?_⟩
      try rw [eq4] at k
      refine pre1 t ?_
      show Steps p.tables e below (T10.setTop (mkF m 30 #[.val (.int p1), .val (.int p2), .val (.int p3), .val (.int p4), .val (.int p5), .val (.int p6), .val (.int ((1 : Int32) + (p2 &&& (3 : Int32)))), .val (.int (f0_v13 p1 p2 p3 p4 p5 p6)), .val (.ref b7), .unset, .unset] [(.int (1 : Int32)), (.int ((1 : Int32) + (p2 &&& (3 : Int32))))])) _
      refine XS.icmpYes X10.here hx rfl (pc0 := 30) (pc' := 38) rfl (hb hby at_30) rfl (flt hc30).2.2.2 (by decide) (by decide) ?_
      exact k
  have pre5 : ∀ t, Steps p.tables e below (T19.setTop (mkF m 41 #[.val (.int p1), .val (.int p2), .val (.int p3), .val (.int p4), .val (.int p5), .val (.int p6), .val (.int ((1 : Int32) + (p2 &&& (3 : Int32)))), .val (.int (f0_v13 p1 p2 p3 p4 p5 p6)), .val (.ref b7), .unset, .unset] [(.int (2 : Int32)), (.int ((1 : Int32) + (p2 &&& (3 : Int32))))])) t → Steps p.tables e below (s₁.setTop (entryFrame m #[(.int p1), (.int p2), (.int p3), (.int p4), (.int p5), (.int p6)] maxLocals)) t := by
    intro t k
    refine pre2 t ?_
    show Steps p.tables e below (T19.setTop (mkF m 38 #[.val (.int p1), .val (.int p2), .val (.int p3), .val (.int p4), .val (.int p5), .val (.int p6), .val (.int ((1 : Int32) + (p2 &&& (3 : Int32)))), .val (.int (f0_v13 p1 p2 p3 p4 p5 p6)), .val (.ref b7), .unset, .unset] [])) _
    refine XS.iload X19.here hx rfl (hb hby at_38) rfl ?_
    show Steps p.tables e below (T19.setTop (mkF m 40 #[.val (.int p1), .val (.int p2), .val (.int p3), .val (.int p4), .val (.int p5), .val (.int p6), .val (.int ((1 : Int32) + (p2 &&& (3 : Int32)))), .val (.int (f0_v13 p1 p2 p3 p4 p5 p6)), .val (.ref b7), .unset, .unset] [(.int ((1 : Int32) + (p2 &&& (3 : Int32))))])) _
    refine XS.iconst X19.here hx rfl (hb hby at_40) ?_
    exact k
  obtain ⟨T26, Lmpre6, h23, X26, e26, N26, c24, c25, pre6⟩ : ∃ (T' : State) (L' : List Loc) (h23 : Heap), Stand p l e room_1 s m #[(.int p1), (.int p2), (.int p3), (.int p4), (.int p5), (.int p6)] below meth c T' L' 1 4 ∧ T'.heap = h23 ∧ Fr n0 L' ∧ n0 ≤ h23.size ∧ IAr Z h23 b7 .int ((1 : Int32) + (p2 &&& (3 : Int32))) (f0_A_b7_50 p1 p2 p3 p4 p5 p6) ∧ ∀ t, Steps p.tables e below (T'.setTop (mkF m 50 #[.val (.int p1), .val (.int p2), .val (.int p3), .val (.int p4), .val (.int p5), .val (.int p6), .val (.int ((1 : Int32) + (p2 &&& (3 : Int32)))), .val (.int (f0_v13 p1 p2 p3 p4 p5 p6)), .val (.ref b7), .unset, .unset] [])) t → Steps p.tables e below (s₁.setTop (entryFrame m #[(.int p1), (.int p2), (.int p3), (.int p4), (.int p5), (.int p6)] maxLocals)) t := by
    by_cases hc41 : (2 : Int32) < ((1 : Int32) + (p2 &&& (3 : Int32)))
    · obtain ⟨T20, h20, X20, e20, W20, V20, st20⟩ := sI X19 hx hZ e19 c18 (j := (2 : Int32)) ⟨by decide, by first | decide | assumption⟩ (g := (mkF m 49 #[.val (.int p1), .val (.int p2), .val (.int p3), .val (.int p4), .val (.int p5), .val (.int p6), .val (.int ((1 : Int32) + (p2 &&& (3 : Int32)))), .val (.int (f0_v13 p1 p2 p3 p4 p5 p6)), .val (.ref b7), .unset, .unset] [(.int p5), (.int (2 : Int32)), (.ref b7)])) rfl rfl (hb hby at_49)
      have N20 := Fr.snoc X20 N19 g_b7
      have c21 : n0 ≤ h20.size := Nat.le_trans c17 (Keep.of_wr W20).1
      have c22 : IAr Z h20 b7 .int ((1 : Int32) + (p2 &&& (3 : Int32))) (f0_v49 p1 p2 p3 p4 p5 p6) := V20
      have eq7 := (show (f0_A_b7_50 p1 p2 p3 p4 p5 p6) = (f0_v49 p1 p2 p3 p4 p5 p6) from by unfold f0_A_b7_50; simp only [if_pos hc41])
      refine ⟨T20, _, h20, X20, e20, N20, c21, (by simp only [eq7]; exact c22), fun t k => ?_⟩
      try rw [eq7] at k
      refine pre5 t ?_
      show Steps p.tables e below (T19.setTop (mkF m 41 #[.val (.int p1), .val (.int p2), .val (.int p3), .val (.int p4), .val (.int p5), .val (.int p6), .val (.int ((1 : Int32) + (p2 &&& (3 : Int32)))), .val (.int (f0_v13 p1 p2 p3 p4 p5 p6)), .val (.ref b7), .unset, .unset] [(.int (2 : Int32)), (.int ((1 : Int32) + (p2 &&& (3 : Int32))))])) _
      refine XS.icmpNo X19.here hx rfl (hb hby at_41) rfl (tlt hc41).2.2.2 ?_
      show Steps p.tables e below (T19.setTop (mkF m 44 #[.val (.int p1), .val (.int p2), .val (.int p3), .val (.int p4), .val (.int p5), .val (.int p6), .val (.int ((1 : Int32) + (p2 &&& (3 : Int32)))), .val (.int (f0_v13 p1 p2 p3 p4 p5 p6)), .val (.ref b7), .unset, .unset] [])) _
      refine XS.aload X19.here hx rfl (hb hby at_44) rfl rfl ?_
      show Steps p.tables e below (T19.setTop (mkF m 46 #[.val (.int p1), .val (.int p2), .val (.int p3), .val (.int p4), .val (.int p5), .val (.int p6), .val (.int ((1 : Int32) + (p2 &&& (3 : Int32)))), .val (.int (f0_v13 p1 p2 p3 p4 p5 p6)), .val (.ref b7), .unset, .unset] [(.ref b7)])) _
      refine XS.iconst X19.here hx rfl (hb hby at_46) ?_
      show Steps p.tables e below (T19.setTop (mkF m 47 #[.val (.int p1), .val (.int p2), .val (.int p3), .val (.int p4), .val (.int p5), .val (.int p6), .val (.int ((1 : Int32) + (p2 &&& (3 : Int32)))), .val (.int (f0_v13 p1 p2 p3 p4 p5 p6)), .val (.ref b7), .unset, .unset] [(.int (2 : Int32)), (.ref b7)])) _
      refine XS.iload X19.here hx rfl (hb hby at_47) rfl ?_
      show Steps p.tables e below (T19.setTop (mkF m 49 #[.val (.int p1), .val (.int p2), .val (.int p3), .val (.int p4), .val (.int p5), .val (.int p6), .val (.int ((1 : Int32) + (p2 &&& (3 : Int32)))), .val (.int (f0_v13 p1 p2 p3 p4 p5 p6)), .val (.ref b7), .unset, .unset] [(.int p5), (.int (2 : Int32)), (.ref b7)])) _
      refine st20 _ ?_
      exact k
    · have eq8 := (show (f0_A_b7_50 p1 p2 p3 p4 p5 p6) = (f0_A_b7_38 p1 p2 p3 p4 p5 p6) from by unfold f0_A_b7_50; simp only [if_neg hc41])
      refine ⟨T19, _, h16, X19, e19, N19, c17, (by simp only [eq8]; exact c18), fun t k => ?_⟩
      try rw [eq8] at k
      refine pre5 t ?_
      show Steps p.tables e below (T19.setTop (mkF m 41 #[.val (.int p1), .val (.int p2), .val (.int p3), .val (.int p4), .val (.int p5), .val (.int p6), .val (.int ((1 : Int32) + (p2 &&& (3 : Int32)))), .val (.int (f0_v13 p1 p2 p3 p4 p5 p6)), .val (.ref b7), .unset, .unset] [(.int (2 : Int32)), (.int ((1 : Int32) + (p2 &&& (3 : Int32))))])) _
      refine XS.icmpYes X19.here hx rfl (pc0 := 41) (pc' := 50) rfl (hb hby at_41) rfl (flt hc41).2.2.2 (by decide) (by decide) ?_
      exact k
  have pre9 : ∀ t, Steps p.tables e below (T26.setTop (mkF m 53 #[.val (.int p1), .val (.int p2), .val (.int p3), .val (.int p4), .val (.int p5), .val (.int p6), .val (.int ((1 : Int32) + (p2 &&& (3 : Int32)))), .val (.int (f0_v13 p1 p2 p3 p4 p5 p6)), .val (.ref b7), .unset, .unset] [(.int (3 : Int32)), (.int ((1 : Int32) + (p2 &&& (3 : Int32))))])) t → Steps p.tables e below (s₁.setTop (entryFrame m #[(.int p1), (.int p2), (.int p3), (.int p4), (.int p5), (.int p6)] maxLocals)) t := by
    intro t k
    refine pre6 t ?_
    show Steps p.tables e below (T26.setTop (mkF m 50 #[.val (.int p1), .val (.int p2), .val (.int p3), .val (.int p4), .val (.int p5), .val (.int p6), .val (.int ((1 : Int32) + (p2 &&& (3 : Int32)))), .val (.int (f0_v13 p1 p2 p3 p4 p5 p6)), .val (.ref b7), .unset, .unset] [])) _
    refine XS.iload X26.here hx rfl (hb hby at_50) rfl ?_
    show Steps p.tables e below (T26.setTop (mkF m 52 #[.val (.int p1), .val (.int p2), .val (.int p3), .val (.int p4), .val (.int p5), .val (.int p6), .val (.int ((1 : Int32) + (p2 &&& (3 : Int32)))), .val (.int (f0_v13 p1 p2 p3 p4 p5 p6)), .val (.ref b7), .unset, .unset] [(.int ((1 : Int32) + (p2 &&& (3 : Int32))))])) _
    refine XS.iconst X26.here hx rfl (hb hby at_52) ?_
    exact k
  obtain ⟨T33, Lmpre10, h30, X33, e33, N33, c31, c32, pre10⟩ : ∃ (T' : State) (L' : List Loc) (h30 : Heap), Stand p l e room_1 s m #[(.int p1), (.int p2), (.int p3), (.int p4), (.int p5), (.int p6)] below meth c T' L' 1 4 ∧ T'.heap = h30 ∧ Fr n0 L' ∧ n0 ≤ h30.size ∧ IAr Z h30 b7 .int ((1 : Int32) + (p2 &&& (3 : Int32))) (f0_A_b7_62 p1 p2 p3 p4 p5 p6) ∧ ∀ t, Steps p.tables e below (T'.setTop (mkF m 62 #[.val (.int p1), .val (.int p2), .val (.int p3), .val (.int p4), .val (.int p5), .val (.int p6), .val (.int ((1 : Int32) + (p2 &&& (3 : Int32)))), .val (.int (f0_v13 p1 p2 p3 p4 p5 p6)), .val (.ref b7), .unset, .unset] [])) t → Steps p.tables e below (s₁.setTop (entryFrame m #[(.int p1), (.int p2), (.int p3), (.int p4), (.int p5), (.int p6)] maxLocals)) t := by
    by_cases hc53 : (3 : Int32) < ((1 : Int32) + (p2 &&& (3 : Int32)))
    · obtain ⟨T27, h27, X27, e27, W27, V27, st27⟩ := sI X26 hx hZ e26 c25 (j := (3 : Int32)) ⟨by decide, by first | decide | assumption⟩ (g := (mkF m 61 #[.val (.int p1), .val (.int p2), .val (.int p3), .val (.int p4), .val (.int p5), .val (.int p6), .val (.int ((1 : Int32) + (p2 &&& (3 : Int32)))), .val (.int (f0_v13 p1 p2 p3 p4 p5 p6)), .val (.ref b7), .unset, .unset] [(.int p6), (.int (3 : Int32)), (.ref b7)])) rfl rfl (hb hby at_61)
      have N27 := Fr.snoc X27 N26 g_b7
      have c28 : n0 ≤ h27.size := Nat.le_trans c24 (Keep.of_wr W27).1
      have c29 : IAr Z h27 b7 .int ((1 : Int32) + (p2 &&& (3 : Int32))) (f0_v61 p1 p2 p3 p4 p5 p6) := V27
      have eq11 := (show (f0_A_b7_62 p1 p2 p3 p4 p5 p6) = (f0_v61 p1 p2 p3 p4 p5 p6) from by unfold f0_A_b7_62; simp only [if_pos hc53])
      refine ⟨T27, _, h27, X27, e27, N27, c28, (by simp only [eq11]; exact c29), fun t k => ?_⟩
      try rw [eq11] at k
      refine pre9 t ?_
      show Steps p.tables e below (T26.setTop (mkF m 53 #[.val (.int p1), .val (.int p2), .val (.int p3), .val (.int p4), .val (.int p5), .val (.int p6), .val (.int ((1 : Int32) + (p2 &&& (3 : Int32)))), .val (.int (f0_v13 p1 p2 p3 p4 p5 p6)), .val (.ref b7), .unset, .unset] [(.int (3 : Int32)), (.int ((1 : Int32) + (p2 &&& (3 : Int32))))])) _
      refine XS.icmpNo X26.here hx rfl (hb hby at_53) rfl (tlt hc53).2.2.2 ?_
      show Steps p.tables e below (T26.setTop (mkF m 56 #[.val (.int p1), .val (.int p2), .val (.int p3), .val (.int p4), .val (.int p5), .val (.int p6), .val (.int ((1 : Int32) + (p2 &&& (3 : Int32)))), .val (.int (f0_v13 p1 p2 p3 p4 p5 p6)), .val (.ref b7), .unset, .unset] [])) _
      refine XS.aload X26.here hx rfl (hb hby at_56) rfl rfl ?_
      show Steps p.tables e below (T26.setTop (mkF m 58 #[.val (.int p1), .val (.int p2), .val (.int p3), .val (.int p4), .val (.int p5), .val (.int p6), .val (.int ((1 : Int32) + (p2 &&& (3 : Int32)))), .val (.int (f0_v13 p1 p2 p3 p4 p5 p6)), .val (.ref b7), .unset, .unset] [(.ref b7)])) _
      refine XS.iconst X26.here hx rfl (hb hby at_58) ?_
      show Steps p.tables e below (T26.setTop (mkF m 59 #[.val (.int p1), .val (.int p2), .val (.int p3), .val (.int p4), .val (.int p5), .val (.int p6), .val (.int ((1 : Int32) + (p2 &&& (3 : Int32)))), .val (.int (f0_v13 p1 p2 p3 p4 p5 p6)), .val (.ref b7), .unset, .unset] [(.int (3 : Int32)), (.ref b7)])) _
      refine XS.iload X26.here hx rfl (hb hby at_59) rfl ?_
      show Steps p.tables e below (T26.setTop (mkF m 61 #[.val (.int p1), .val (.int p2), .val (.int p3), .val (.int p4), .val (.int p5), .val (.int p6), .val (.int ((1 : Int32) + (p2 &&& (3 : Int32)))), .val (.int (f0_v13 p1 p2 p3 p4 p5 p6)), .val (.ref b7), .unset, .unset] [(.int p6), (.int (3 : Int32)), (.ref b7)])) _
      refine st27 _ ?_
      exact k
    · have eq12 := (show (f0_A_b7_62 p1 p2 p3 p4 p5 p6) = (f0_A_b7_50 p1 p2 p3 p4 p5 p6) from by unfold f0_A_b7_62; simp only [if_neg hc53])
      refine ⟨T26, _, h23, X26, e26, N26, c24, (by simp only [eq12]; exact c25), fun t k => ?_⟩
      try rw [eq12] at k
      refine pre9 t ?_
      show Steps p.tables e below (T26.setTop (mkF m 53 #[.val (.int p1), .val (.int p2), .val (.int p3), .val (.int p4), .val (.int p5), .val (.int p6), .val (.int ((1 : Int32) + (p2 &&& (3 : Int32)))), .val (.int (f0_v13 p1 p2 p3 p4 p5 p6)), .val (.ref b7), .unset, .unset] [(.int (3 : Int32)), (.int ((1 : Int32) + (p2 &&& (3 : Int32))))])) _
      refine XS.icmpYes X26.here hx rfl (pc0 := 53) (pc' := 62) rfl (hb hby at_53) rfl (flt hc53).2.2.2 (by decide) (by decide) ?_
      exact k
  obtain ⟨_, _, ⟨T34, L34, k34, n34⟩, -, X34, ⟨Lc34, hQ34, l34, y34, z34⟩, st34⟩ := Jvm.LawKit.callS X33 hx (y := (⟨"com/example/podflow/podflow/simulation/SamplingVotingPolicyWinnerPinLaw", "reference", "(IIIIII)I"⟩ : MethodName)) hown (mvT hZ (hw _ (List.mem_of_getElem? (i := 2) rfl))) (mvT hZ (hw _ (List.mem_of_getElem? (i := 3) rfl))) (mvT hZ (hw _ (List.mem_of_getElem? (i := 4) rfl))) (mvT hZ (hw _ (List.mem_of_getElem? (i := 5) rfl))) (by decide) (backOf (W := 0) (rm1 l Z a0 hw [] ((1 : Int32) + (p2 &&& (3 : Int32))) (f0_v13 p1 p2 p3 p4 p5 p6) p3 p4 p5 p6 h30 n0 c31 ) hZ (hw _ (List.mem_of_getElem? (i := 5) rfl)) (hw _ (List.mem_of_getElem? (i := 4) rfl)) (by decide) (by decide)) (g := (mkF m 72 #[.val (.int p1), .val (.int p2), .val (.int p3), .val (.int p4), .val (.int p5), .val (.int p6), .val (.int ((1 : Int32) + (p2 &&& (3 : Int32)))), .val (.int (f0_v13 p1 p2 p3 p4 p5 p6)), .val (.ref b7), .unset, .unset] [(.int p6), (.int p5), (.int p4), (.int p3), (.int (f0_v13 p1 p2 p3 p4 p5 p6)), (.int ((1 : Int32) + (p2 &&& (3 : Int32))))])) rfl (by rw [hml]; rfl) (argsL := [(.int ((1 : Int32) + (p2 &&& (3 : Int32)))), (.int (f0_v13 p1 p2 p3 p4 p5 p6)), (.int p3), (.int p4), (.int p5), (.int p6)]) (rest := []) (lenOf pd_1 rfl) rfl (by show 2 * 0 + _ ≤ _; exact Nat.le_of_eq rfl) (hb hby at_72) (fun _ _ => ⟨rfl, e33, (by decide : 1 + 0 ≤ _), (by decide : 4 + 0 ≤ _)⟩)
  dsimp only [Pt.U, Pt.locs, Pt.cells, Pt.slots] at X34 l34 y34 z34 st34 hQ34
  subst l34 y34 z34
  obtain ⟨rfl, N34q, e34⟩ := hQ34
  have N34 := Fr.app N33 N34q
  obtain ⟨_, _, ⟨T35, L35, k35, n35⟩, -, X35, ⟨Lc35, hQ35, l35, y35, z35⟩, st35⟩ := Jvm.LawKit.callS X34 hx (y := (⟨"com/example/podflow/podflow/simulation/SamplingVotingPolicy", "winner", "(I[I)I"⟩ : MethodName)) hown (mvT hZ (hw _ (List.mem_of_getElem? (i := 10) rfl))) (mvT hZ (hw _ (List.mem_of_getElem? (i := 11) rfl))) (mvT hZ (hw _ (List.mem_of_getElem? (i := 12) rfl))) (mvT hZ (hw _ (List.mem_of_getElem? (i := 13) rfl))) (by decide) (backOf (W := 0) (rm3 l Z a0 hw [] (f0_v13 p1 p2 p3 p4 p5 p6) b7 ((1 : Int32) + (p2 &&& (3 : Int32))) (f0_A_b7_62 p1 p2 p3 p4 p5 p6) h30 n0 c31 c32 (own_hq _ _ _ _ _ _)) hZ (hw _ (List.mem_of_getElem? (i := 13) rfl)) (hw _ (List.mem_of_getElem? (i := 12) rfl)) (by decide) (by decide)) (g := (mkF m 81 #[.val (.int p1), .val (.int p2), .val (.int p3), .val (.int p4), .val (.int p5), .val (.int p6), .val (.int ((1 : Int32) + (p2 &&& (3 : Int32)))), .val (.int (f0_v13 p1 p2 p3 p4 p5 p6)), .val (.ref b7), .val (.int (f1 ((1 : Int32) + (p2 &&& (3 : Int32))) (f0_v13 p1 p2 p3 p4 p5 p6) p3 p4 p5 p6)), .unset] [(.ref b7), (.int (f0_v13 p1 p2 p3 p4 p5 p6))])) rfl (by rw [hml]; rfl) (argsL := [(.int (f0_v13 p1 p2 p3 p4 p5 p6)), (.ref b7)]) (rest := []) (lenOf pd_2 rfl) rfl (by show 2 * 0 + _ ≤ _; exact Nat.le_of_eq rfl) (hb hby at_81) (fun _ _ => ⟨rfl, e34, (by decide : 1 + 0 ≤ _), (by decide : 4 + 0 ≤ _)⟩)
  dsimp only [Pt.U, Pt.locs, Pt.cells, Pt.slots] at X35 l35 y35 z35 st35 hQ35
  subst l35 y35 z35
  obtain ⟨rfl, N35q, e35⟩ := hQ35
  have N35 := Fr.app N34 N35q
  have pre13 : ∀ t, Steps p.tables e below (T35.setTop (mkF m 90 #[.val (.int p1), .val (.int p2), .val (.int p3), .val (.int p4), .val (.int p5), .val (.int p6), .val (.int ((1 : Int32) + (p2 &&& (3 : Int32)))), .val (.int (f0_v13 p1 p2 p3 p4 p5 p6)), .val (.ref b7), .val (.int (f1 ((1 : Int32) + (p2 &&& (3 : Int32))) (f0_v13 p1 p2 p3 p4 p5 p6) p3 p4 p5 p6)), .val (.int (f0_v84 p1 p2 p3 p4 p5 p6))] [(.int (f1 ((1 : Int32) + (p2 &&& (3 : Int32))) (f0_v13 p1 p2 p3 p4 p5 p6) p3 p4 p5 p6)), (.int (f0_v84 p1 p2 p3 p4 p5 p6))])) t → Steps p.tables e below (s₁.setTop (entryFrame m #[(.int p1), (.int p2), (.int p3), (.int p4), (.int p5), (.int p6)] maxLocals)) t := by
    intro t k
    refine pre10 t ?_
    show Steps p.tables e below (T33.setTop (mkF m 62 #[.val (.int p1), .val (.int p2), .val (.int p3), .val (.int p4), .val (.int p5), .val (.int p6), .val (.int ((1 : Int32) + (p2 &&& (3 : Int32)))), .val (.int (f0_v13 p1 p2 p3 p4 p5 p6)), .val (.ref b7), .unset, .unset] [])) _
    refine XS.iload X33.here hx rfl (hb hby at_62) rfl ?_
    show Steps p.tables e below (T33.setTop (mkF m 64 #[.val (.int p1), .val (.int p2), .val (.int p3), .val (.int p4), .val (.int p5), .val (.int p6), .val (.int ((1 : Int32) + (p2 &&& (3 : Int32)))), .val (.int (f0_v13 p1 p2 p3 p4 p5 p6)), .val (.ref b7), .unset, .unset] [(.int ((1 : Int32) + (p2 &&& (3 : Int32))))])) _
    refine XS.iload X33.here hx rfl (hb hby at_64) rfl ?_
    show Steps p.tables e below (T33.setTop (mkF m 66 #[.val (.int p1), .val (.int p2), .val (.int p3), .val (.int p4), .val (.int p5), .val (.int p6), .val (.int ((1 : Int32) + (p2 &&& (3 : Int32)))), .val (.int (f0_v13 p1 p2 p3 p4 p5 p6)), .val (.ref b7), .unset, .unset] [(.int (f0_v13 p1 p2 p3 p4 p5 p6)), (.int ((1 : Int32) + (p2 &&& (3 : Int32))))])) _
    refine XS.iloadN X33.here hx rfl (hb hby at_66) rfl ?_
    show Steps p.tables e below (T33.setTop (mkF m 67 #[.val (.int p1), .val (.int p2), .val (.int p3), .val (.int p4), .val (.int p5), .val (.int p6), .val (.int ((1 : Int32) + (p2 &&& (3 : Int32)))), .val (.int (f0_v13 p1 p2 p3 p4 p5 p6)), .val (.ref b7), .unset, .unset] [(.int p3), (.int (f0_v13 p1 p2 p3 p4 p5 p6)), (.int ((1 : Int32) + (p2 &&& (3 : Int32))))])) _
    refine XS.iloadN X33.here hx rfl (hb hby at_67) rfl ?_
    show Steps p.tables e below (T33.setTop (mkF m 68 #[.val (.int p1), .val (.int p2), .val (.int p3), .val (.int p4), .val (.int p5), .val (.int p6), .val (.int ((1 : Int32) + (p2 &&& (3 : Int32)))), .val (.int (f0_v13 p1 p2 p3 p4 p5 p6)), .val (.ref b7), .unset, .unset] [(.int p4), (.int p3), (.int (f0_v13 p1 p2 p3 p4 p5 p6)), (.int ((1 : Int32) + (p2 &&& (3 : Int32))))])) _
    refine XS.iload X33.here hx rfl (hb hby at_68) rfl ?_
    show Steps p.tables e below (T33.setTop (mkF m 70 #[.val (.int p1), .val (.int p2), .val (.int p3), .val (.int p4), .val (.int p5), .val (.int p6), .val (.int ((1 : Int32) + (p2 &&& (3 : Int32)))), .val (.int (f0_v13 p1 p2 p3 p4 p5 p6)), .val (.ref b7), .unset, .unset] [(.int p5), (.int p4), (.int p3), (.int (f0_v13 p1 p2 p3 p4 p5 p6)), (.int ((1 : Int32) + (p2 &&& (3 : Int32))))])) _
    refine XS.iload X33.here hx rfl (hb hby at_70) rfl ?_
    show Steps p.tables e below (T33.setTop (mkF m 72 #[.val (.int p1), .val (.int p2), .val (.int p3), .val (.int p4), .val (.int p5), .val (.int p6), .val (.int ((1 : Int32) + (p2 &&& (3 : Int32)))), .val (.int (f0_v13 p1 p2 p3 p4 p5 p6)), .val (.ref b7), .unset, .unset] [(.int p6), (.int p5), (.int p4), (.int p3), (.int (f0_v13 p1 p2 p3 p4 p5 p6)), (.int ((1 : Int32) + (p2 &&& (3 : Int32))))])) _
    refine st34 _ ?_
    show Steps p.tables e below (T34.setTop (mkF m 75 #[.val (.int p1), .val (.int p2), .val (.int p3), .val (.int p4), .val (.int p5), .val (.int p6), .val (.int ((1 : Int32) + (p2 &&& (3 : Int32)))), .val (.int (f0_v13 p1 p2 p3 p4 p5 p6)), .val (.ref b7), .unset, .unset] [(.int (f1 ((1 : Int32) + (p2 &&& (3 : Int32))) (f0_v13 p1 p2 p3 p4 p5 p6) p3 p4 p5 p6))])) _
    refine XS.istore X34.here hx rfl (hb hby at_75) rfl (l' := #[.val (.int p1), .val (.int p2), .val (.int p3), .val (.int p4), .val (.int p5), .val (.int p6), .val (.int ((1 : Int32) + (p2 &&& (3 : Int32)))), .val (.int (f0_v13 p1 p2 p3 p4 p5 p6)), .val (.ref b7), .val (.int (f1 ((1 : Int32) + (p2 &&& (3 : Int32))) (f0_v13 p1 p2 p3 p4 p5 p6) p3 p4 p5 p6)), .unset]) rfl ?_
    show Steps p.tables e below (T34.setTop (mkF m 77 #[.val (.int p1), .val (.int p2), .val (.int p3), .val (.int p4), .val (.int p5), .val (.int p6), .val (.int ((1 : Int32) + (p2 &&& (3 : Int32)))), .val (.int (f0_v13 p1 p2 p3 p4 p5 p6)), .val (.ref b7), .val (.int (f1 ((1 : Int32) + (p2 &&& (3 : Int32))) (f0_v13 p1 p2 p3 p4 p5 p6) p3 p4 p5 p6)), .unset] [])) _
    refine XS.iload X34.here hx rfl (hb hby at_77) rfl ?_
    show Steps p.tables e below (T34.setTop (mkF m 79 #[.val (.int p1), .val (.int p2), .val (.int p3), .val (.int p4), .val (.int p5), .val (.int p6), .val (.int ((1 : Int32) + (p2 &&& (3 : Int32)))), .val (.int (f0_v13 p1 p2 p3 p4 p5 p6)), .val (.ref b7), .val (.int (f1 ((1 : Int32) + (p2 &&& (3 : Int32))) (f0_v13 p1 p2 p3 p4 p5 p6) p3 p4 p5 p6)), .unset] [(.int (f0_v13 p1 p2 p3 p4 p5 p6))])) _
    refine XS.aload X34.here hx rfl (hb hby at_79) rfl rfl ?_
    show Steps p.tables e below (T34.setTop (mkF m 81 #[.val (.int p1), .val (.int p2), .val (.int p3), .val (.int p4), .val (.int p5), .val (.int p6), .val (.int ((1 : Int32) + (p2 &&& (3 : Int32)))), .val (.int (f0_v13 p1 p2 p3 p4 p5 p6)), .val (.ref b7), .val (.int (f1 ((1 : Int32) + (p2 &&& (3 : Int32))) (f0_v13 p1 p2 p3 p4 p5 p6) p3 p4 p5 p6)), .unset] [(.ref b7), (.int (f0_v13 p1 p2 p3 p4 p5 p6))])) _
    refine st35 _ ?_
    show Steps p.tables e below (T35.setTop (mkF m 84 #[.val (.int p1), .val (.int p2), .val (.int p3), .val (.int p4), .val (.int p5), .val (.int p6), .val (.int ((1 : Int32) + (p2 &&& (3 : Int32)))), .val (.int (f0_v13 p1 p2 p3 p4 p5 p6)), .val (.ref b7), .val (.int (f1 ((1 : Int32) + (p2 &&& (3 : Int32))) (f0_v13 p1 p2 p3 p4 p5 p6) p3 p4 p5 p6)), .unset] [(.int (f3 (f0_v13 p1 p2 p3 p4 p5 p6) ((1 : Int32) + (p2 &&& (3 : Int32))) (f0_A_b7_62 p1 p2 p3 p4 p5 p6)))])) _
    refine XS.istore X35.here hx rfl (hb hby at_84) rfl (l' := #[.val (.int p1), .val (.int p2), .val (.int p3), .val (.int p4), .val (.int p5), .val (.int p6), .val (.int ((1 : Int32) + (p2 &&& (3 : Int32)))), .val (.int (f0_v13 p1 p2 p3 p4 p5 p6)), .val (.ref b7), .val (.int (f1 ((1 : Int32) + (p2 &&& (3 : Int32))) (f0_v13 p1 p2 p3 p4 p5 p6) p3 p4 p5 p6)), .val (.int (f0_v84 p1 p2 p3 p4 p5 p6))]) rfl ?_
    show Steps p.tables e below (T35.setTop (mkF m 86 #[.val (.int p1), .val (.int p2), .val (.int p3), .val (.int p4), .val (.int p5), .val (.int p6), .val (.int ((1 : Int32) + (p2 &&& (3 : Int32)))), .val (.int (f0_v13 p1 p2 p3 p4 p5 p6)), .val (.ref b7), .val (.int (f1 ((1 : Int32) + (p2 &&& (3 : Int32))) (f0_v13 p1 p2 p3 p4 p5 p6) p3 p4 p5 p6)), .val (.int (f0_v84 p1 p2 p3 p4 p5 p6))] [])) _
    refine XS.iload X35.here hx rfl (hb hby at_86) rfl ?_
    show Steps p.tables e below (T35.setTop (mkF m 88 #[.val (.int p1), .val (.int p2), .val (.int p3), .val (.int p4), .val (.int p5), .val (.int p6), .val (.int ((1 : Int32) + (p2 &&& (3 : Int32)))), .val (.int (f0_v13 p1 p2 p3 p4 p5 p6)), .val (.ref b7), .val (.int (f1 ((1 : Int32) + (p2 &&& (3 : Int32))) (f0_v13 p1 p2 p3 p4 p5 p6) p3 p4 p5 p6)), .val (.int (f0_v84 p1 p2 p3 p4 p5 p6))] [(.int (f0_v84 p1 p2 p3 p4 p5 p6))])) _
    refine XS.iload X35.here hx rfl (hb hby at_88) rfl ?_
    exact k
  by_cases hc90 : (f0_v84 p1 p2 p3 p4 p5 p6) = (f1 ((1 : Int32) + (p2 &&& (3 : Int32))) (f0_v13 p1 p2 p3 p4 p5 p6) p3 p4 p5 p6)
  · have eq14 : (f0 p1 p2 p3 p4 p5 p6) = (1 : Int32) := by unfold f0; simp only [if_pos hc90]
    obtain ⟨fs, hr, hrun, hended, hW, hsame⟩ := X35.leave (v := some (.int (1 : Int32))) (fun h => by rw [Bd.returns] at h; cases h)
    refine ⟨_, _, pre13 _ ?_, hrun, hended, _, _, rfl, ?_, ⟨_, rfl⟩, hW, hsame.mono (by decide) (by decide)⟩
    · show Steps p.tables e below (T35.setTop (mkF m 90 #[.val (.int p1), .val (.int p2), .val (.int p3), .val (.int p4), .val (.int p5), .val (.int p6), .val (.int ((1 : Int32) + (p2 &&& (3 : Int32)))), .val (.int (f0_v13 p1 p2 p3 p4 p5 p6)), .val (.ref b7), .val (.int (f1 ((1 : Int32) + (p2 &&& (3 : Int32))) (f0_v13 p1 p2 p3 p4 p5 p6) p3 p4 p5 p6)), .val (.int (f0_v84 p1 p2 p3 p4 p5 p6))] [(.int (f1 ((1 : Int32) + (p2 &&& (3 : Int32))) (f0_v13 p1 p2 p3 p4 p5 p6) p3 p4 p5 p6)), (.int (f0_v84 p1 p2 p3 p4 p5 p6))])) _
      refine XS.icmpNo X35.here hx rfl (hb hby at_90) rfl (teq hc90).2 ?_
      show Steps p.tables e below (T35.setTop (mkF m 93 #[.val (.int p1), .val (.int p2), .val (.int p3), .val (.int p4), .val (.int p5), .val (.int p6), .val (.int ((1 : Int32) + (p2 &&& (3 : Int32)))), .val (.int (f0_v13 p1 p2 p3 p4 p5 p6)), .val (.ref b7), .val (.int (f1 ((1 : Int32) + (p2 &&& (3 : Int32))) (f0_v13 p1 p2 p3 p4 p5 p6) p3 p4 p5 p6)), .val (.int (f0_v84 p1 p2 p3 p4 p5 p6))] [])) _
      refine XS.iconst X35.here hx rfl (hb hby at_93) ?_
      show Steps p.tables e below (T35.setTop (mkF m 94 #[.val (.int p1), .val (.int p2), .val (.int p3), .val (.int p4), .val (.int p5), .val (.int p6), .val (.int ((1 : Int32) + (p2 &&& (3 : Int32)))), .val (.int (f0_v13 p1 p2 p3 p4 p5 p6)), .val (.ref b7), .val (.int (f1 ((1 : Int32) + (p2 &&& (3 : Int32))) (f0_v13 p1 p2 p3 p4 p5 p6) p3 p4 p5 p6)), .val (.int (f0_v84 p1 p2 p3 p4 p5 p6))] [(.int (1 : Int32))])) _
      refine XS.goto X35.here hx rfl (pc0 := 94) (pc' := 98) rfl (hb hby at_94) (by decide) (by decide) ?_
      show Steps p.tables e below (T35.setTop (mkF m 98 #[.val (.int p1), .val (.int p2), .val (.int p3), .val (.int p4), .val (.int p5), .val (.int p6), .val (.int ((1 : Int32) + (p2 &&& (3 : Int32)))), .val (.int (f0_v13 p1 p2 p3 p4 p5 p6)), .val (.ref b7), .val (.int (f1 ((1 : Int32) + (p2 &&& (3 : Int32))) (f0_v13 p1 p2 p3 p4 p5 p6) p3 p4 p5 p6)), .val (.int (f0_v84 p1 p2 p3 p4 p5 p6))] [(.int (1 : Int32))])) _
      exact retN X35 hx (t := .boolean) Bd.returns (by simp) (hb hby at_98) hr
    · show Q0 Z p1 p2 p3 p4 p5 p6 h0 n0 _ T35.heap _
      rw [e35]
      exact ⟨by rw [eq14], N35, trivial⟩
  · have eq15 : (f0 p1 p2 p3 p4 p5 p6) = (0 : Int32) := by unfold f0; simp only [if_neg hc90]
    obtain ⟨fs, hr, hrun, hended, hW, hsame⟩ := X35.leave (v := some (.int (0 : Int32))) (fun h => by rw [Bd.returns] at h; cases h)
    refine ⟨_, _, pre13 _ ?_, hrun, hended, _, _, rfl, ?_, ⟨_, rfl⟩, hW, hsame.mono (by decide) (by decide)⟩
    · show Steps p.tables e below (T35.setTop (mkF m 90 #[.val (.int p1), .val (.int p2), .val (.int p3), .val (.int p4), .val (.int p5), .val (.int p6), .val (.int ((1 : Int32) + (p2 &&& (3 : Int32)))), .val (.int (f0_v13 p1 p2 p3 p4 p5 p6)), .val (.ref b7), .val (.int (f1 ((1 : Int32) + (p2 &&& (3 : Int32))) (f0_v13 p1 p2 p3 p4 p5 p6) p3 p4 p5 p6)), .val (.int (f0_v84 p1 p2 p3 p4 p5 p6))] [(.int (f1 ((1 : Int32) + (p2 &&& (3 : Int32))) (f0_v13 p1 p2 p3 p4 p5 p6) p3 p4 p5 p6)), (.int (f0_v84 p1 p2 p3 p4 p5 p6))])) _
      refine XS.icmpYes X35.here hx rfl (pc0 := 90) (pc' := 97) rfl (hb hby at_90) rfl (feq hc90).2 (by decide) (by decide) ?_
      show Steps p.tables e below (T35.setTop (mkF m 97 #[.val (.int p1), .val (.int p2), .val (.int p3), .val (.int p4), .val (.int p5), .val (.int p6), .val (.int ((1 : Int32) + (p2 &&& (3 : Int32)))), .val (.int (f0_v13 p1 p2 p3 p4 p5 p6)), .val (.ref b7), .val (.int (f1 ((1 : Int32) + (p2 &&& (3 : Int32))) (f0_v13 p1 p2 p3 p4 p5 p6) p3 p4 p5 p6)), .val (.int (f0_v84 p1 p2 p3 p4 p5 p6))] [])) _
      refine XS.iconst X35.here hx rfl (hb hby at_97) ?_
      show Steps p.tables e below (T35.setTop (mkF m 98 #[.val (.int p1), .val (.int p2), .val (.int p3), .val (.int p4), .val (.int p5), .val (.int p6), .val (.int ((1 : Int32) + (p2 &&& (3 : Int32)))), .val (.int (f0_v13 p1 p2 p3 p4 p5 p6)), .val (.ref b7), .val (.int (f1 ((1 : Int32) + (p2 &&& (3 : Int32))) (f0_v13 p1 p2 p3 p4 p5 p6) p3 p4 p5 p6)), .val (.int (f0_v84 p1 p2 p3 p4 p5 p6))] [(.int (0 : Int32))])) _
      exact retN X35 hx (t := .boolean) Bd.returns (by simp) (hb hby at_98) hr
    · show Q0 Z p1 p2 p3 p4 p5 p6 h0 n0 _ T35.heap _
      rw [e35]
      exact ⟨by rw [eq15], N35, trivial⟩
theorem own_max (a b : Int32) : a.toInt ≤ (f2 a b).toInt ∧ b.toInt ≤ (f2 a b).toInt ∧ ((f2 a b).toInt = a.toInt ∨ (f2 a b).toInt = b.toInt) := by
  unfold f2
  split <;> rename_i h <;> rw [Int32.lt_iff_toInt_lt] at h
  · exact ⟨by omega, by omega, Or.inr rfl⟩
  · exact ⟨by omega, by omega, Or.inl rfl⟩
theorem own_key (n st a b c d : Int32) (C : Nat → Int32) (hn : n = 1 ∨ n = 2 ∨ n = 3 ∨ n = 4) (hs : st = 0 ∨ (st = 1 ∧ 1 < n) ∨ (st = 2 ∧ 2 < n) ∨ (st = 3 ∧ 3 < n)) (h0 : C 0 = a) (h1 : 1 < n → C 1 = b) (h2 : 2 < n → C 2 = c) (h3 : 3 < n → C 3 = d) : f3 st n C = f1 n st a b c d := by
  have m1 := own_max a b
  have m2 := own_max (f2 a b) c
  have m3 := own_max (f2 (f2 a b) c) d
  rcases hn with rfl | rfl | rfl | rfl
  · obtain rfl : st = 0 := by
      rcases hs with h | ⟨-, h⟩ | ⟨-, h⟩ | ⟨-, h⟩
      · exact h
      all_goals exact absurd h (by decide)
    simp [f3, g3_4, f1, f1_s0_73, f1_l6_44, f1_l6_30, f1_l6_16]
  · have e1 := h1 (by decide)
    subst h0 e1
    rcases hs with rfl | ⟨rfl, -⟩ | ⟨-, h⟩ | ⟨-, h⟩
    rotate_left 2
    · exact absurd h (by decide)
    · exact absurd h (by decide)
    all_goals simp [f3, g3_4, f1, f1_s0_73, f1_l6_44, f1_l6_30, f1_l6_16, show ¬ ((2 : Int32) < 2) by decide, -Int32.not_lt]
    all_goals generalize f2 (C 0) (C 1) = m at *
    all_goals simp only [Int32.lt_iff_toInt_lt, ← Int32.toInt_inj]
    all_goals repeat' split
    all_goals first | rfl | (exfalso; omega)
  · have e1 := h1 (by decide)
    have e2 := h2 (by decide)
    subst h0 e1 e2
    rcases hs with rfl | ⟨rfl, -⟩ | ⟨rfl, -⟩ | ⟨-, h⟩
    rotate_left 3
    · exact absurd h (by decide)
    all_goals simp [f3, g3_4, f1, f1_s0_73, f1_l6_44, f1_l6_30, f1_l6_16, -Int32.not_lt]
    all_goals generalize f2 (C 0) (C 1) = m at *
    all_goals generalize f2 m (C 2) = m' at *
    all_goals simp only [Int32.lt_iff_toInt_lt, ← Int32.toInt_inj]
    all_goals repeat' split
    all_goals first | rfl | (exfalso; omega)
  · have e1 := h1 (by decide)
    have e2 := h2 (by decide)
    have e3 := h3 (by decide)
    subst h0 e1 e2 e3
    rcases hs with rfl | ⟨rfl, -⟩ | ⟨rfl, -⟩ | ⟨rfl, -⟩
    all_goals simp [f3, g3_4, f1, f1_s0_73, f1_l6_44, f1_l6_30, f1_l6_16, -Int32.not_lt]
    all_goals generalize f2 (C 0) (C 1) = m at *
    all_goals generalize f2 m (C 2) = m' at *
    all_goals generalize f2 m' (C 3) = m'' at *
    all_goals simp only [Int32.lt_iff_toInt_lt, ← Int32.toInt_inj]
    all_goals repeat' split
    all_goals first | rfl | (exfalso; omega)
theorem own_law (x k a b c d : Int32) : f0 x k a b c d = 1 := by
  have hn := own_n k
  have hq := own_hq x k a b c d
  unfold f0 f0_v84
  have e0 : (0 : Int32).toInt = 0 := rfl
  have e1 : (1 : Int32).toInt = 1 := rfl
  have e2 : (2 : Int32).toInt = 2 := rfl
  have e3 : (3 : Int32).toInt = 3 := rfl
  have e4 : (4 : Int32).toInt = 4 := rfl
  have C0 : f0_A_b7_62 x k a b c d 0 = a := by
    unfold f0_A_b7_62 f0_v61 f0_A_b7_50 f0_v49 f0_A_b7_38 f0_v37 f0_v26
    repeat' split
    all_goals rfl
  have C1 : (1 : Int32) < 1 + (k &&& 3) → f0_A_b7_62 x k a b c d 1 = b := fun h => by
    unfold f0_A_b7_62 f0_v61 f0_A_b7_50 f0_v49 f0_A_b7_38 f0_v37 f0_v26
    rw [if_pos h]
    repeat' split
    all_goals rfl
  have C2 : (2 : Int32) < 1 + (k &&& 3) → f0_A_b7_62 x k a b c d 2 = c := fun h => by
    unfold f0_A_b7_62 f0_v61 f0_A_b7_50 f0_v49 f0_A_b7_38 f0_v37 f0_v26
    rw [if_pos h]
    repeat' split
    all_goals rfl
  have C3 : (3 : Int32) < 1 + (k &&& 3) → f0_A_b7_62 x k a b c d 3 = d := fun h => by
    unfold f0_A_b7_62 f0_v61 f0_A_b7_50 f0_v49 f0_A_b7_38 f0_v37 f0_v26
    rw [if_pos h]
    repeat' split
    all_goals rfl
  generalize f0_A_b7_62 x k a b c d = C at *
  generalize f0_v13 x k a b c d = st at *
  generalize (1 : Int32) + (k &&& 3) = n at *
  have n4 : n = 1 ∨ n = 2 ∨ n = 3 ∨ n = 4 := by
    simp only [← Int32.toInt_inj]; omega
  have s4 : st = 0 ∨ (st = 1 ∧ 1 < n) ∨ (st = 2 ∧ 2 < n) ∨ (st = 3 ∧ 3 < n) := by
    simp only [← Int32.toInt_inj, Int32.lt_iff_toInt_lt]; omega
  rw [own_key n st a b c d C n4 s4 C0 C1 C2 C3, if_pos rfl]

set_option maxRecDepth 65536 in
set_option maxHeartbeats 40000000 in
theorem comes_1 {Post : Tables → Env → Array Value → State → Outcome → State → Prop} (hpost : ∀ tb e args s v u, (limb_1_1.after args s (.returned v) u = true ∧ limb_1_2.after args s (.returned v) u = true ∧ True) → FrameEnd s (.returned v) u (Jvm.fieldLocs frame_1_writes args s ++ Jvm.arrayLocs frame_1_arrays args s ++ Jvm.staticLocs frame_1_statics s) 16 128 → Post tb e args s (.returned v) u) :
    ArmFor flags0 classFile x code maxLocals ret World_1 tables_1 room_1 Calls_1 rest_1 Pre_1 Post := by
  intro l hfl _ _ p e ha hc hk s m args below hf hA hF happ hP
  obtain ⟨hcalls, hrest, hpre⟩ := hP
  obtain ⟨-, -, -, hnamed, -, -, -, hat⟩ := (Spec.applies_iff hf).mp happ
  obtain ⟨hg, hn⟩ := and_e (Cond.before_iff.mp (show (Jvm.Cond.and given_1 narrow_1).before args s = true from hpre))
  obtain ⟨g1, g2⟩ := and_e hg
  obtain ⟨g3, g4⟩ := and_e g2
  obtain ⟨g5, g6⟩ := and_e g4
  obtain ⟨g7, g8⟩ := and_e g6
  obtain ⟨g9, g10⟩ := and_e g8
  obtain ⟨g11, g12⟩ := and_e g10
  obtain ⟨w0, w1, w2, w3, w4, w5, rfl⟩ : ∃ w0 w1 w2 w3 w4 w5 : Value, args = #[w0, w1, w2, w3, w4, w5] := by
    have hs : args.size = 6 := by simpa [Cond.value, given_1] using g1
    obtain ⟨L⟩ := args
    match L, hs with
    | [w0, w1, w2, w3, w4, w5], _ => exact ⟨w0, w1, w2, w3, w4, w5, rfl⟩
  have hw := fun d (hd : d ∈ tables_1) => atoms_spec (ws := Jvm.Cond.code x code maxLocals ret :: tables_1) hat d (List.mem_cons_of_mem _ hd)
  have hfit : Fit s := fun {y c} hc i hi => by
    obtain ⟨ha, rfl⟩ := Array.getElem?_eq_some_iff.mp hc
    have q := List.all_eq_true.mp ((Array.all_eq_true_iff_forall_mem.mp hF) _ (Array.getElem_mem ha)) i (List.mem_range.mpr hi)
    simpa [Array.getElem?_eq_getElem hi] using q
  obtain ⟨i0, ei0⟩ := is_v g3
  obtain rfl : w0 = (.int i0) := Option.some.inj ei0
  obtain ⟨i1, ei1⟩ := is_v g5
  obtain rfl : w1 = (.int i1) := Option.some.inj ei1
  obtain ⟨i2, ei2⟩ := is_v g7
  obtain rfl : w2 = (.int i2) := Option.some.inj ei2
  obtain ⟨i3, ei3⟩ := is_v g9
  obtain rfl : w3 = (.int i3) := Option.some.inj ei3
  obtain ⟨i4, ei4⟩ := is_v g11
  obtain rfl : w4 = (.int i4) := Option.some.inj ei4
  obtain ⟨i5, ei5⟩ := is_v g12
  obtain rfl : w5 = (.int i5) := Option.some.inj ei5
  obtain ⟨n, o, h1, h2, h3, v', L, rfl, ⟨hv', N, -⟩, hq⟩ := rm0 l s _ hw tables_1 i0 i1 i2 i3 i4 i5 s.heap s.heap.size (Nat.le_refl _)  p e ha hc hk s m _ below hf ((Spec.applies_iff_loose hf).mp happ).1 ⟨rfl, State.Warmed39.refl s, rfl⟩ trivial
  rw [own_law i0 i1 i2 i3 i4 i5] at hv'
  subst hv'
  refine ⟨n, _, h1, h2, h3, hpost _ _ _ _ _ _ ⟨Cond.after_iff.mpr rfl, Cond.after_iff.mpr (eq_i res_at (Term.int_eval (1)) rfl), trivial⟩ ⟨hq.1, hq.2.1, (hq.2.2.sift fun y hy => Or.inr (N y hy)).mono (by decide) (by decide)⟩⟩
theorem main_1_1 : Claimed_1_1 := comes_1 fun _ _ _ _ _ _ h hF => ⟨h.1, hF⟩
theorem main_1_2 : Claimed_1_2 := comes_1 fun _ _ _ _ _ _ h hF => ⟨h.2.1, hF⟩
end Jvm.Pilot.@@N@@
namespace Jvm.Pilot.@@N@@
open Jvm Jvm.ClassFile Sem Op Lib Jvm.Free Jvm.Stand Jvm.Pilot.@@N@@.Jvm.D
/-! MADE BY PROGRAM (witnessworld.py) out of the Statement's table words and the real class files: 11 classes; the members and pool entries that the words name. The judged class is class 1, her method 1. -/
namespace start1
open Jvm.ClassFile
def u (s : String) : CpInfo := .utf8 (stringToUtf16 s)
/-- a pool by its gaps: so many unusable entries, then the entry; so many at the end -/
def gap : Nat → List CpInfo → List CpInfo
  | 0, r => r
  | n + 1, r => .unusable :: gap n r
def poolList (es : List (Nat × CpInfo)) (last : Nat) : List CpInfo := es.foldr (fun e r => gap e.1 (e.2 :: r)) (gap last [])
def pool (es : List (Nat × CpInfo)) (last : Nat) : Array CpInfo := ⟨poolList es last⟩
def fileOf (pool : Array CpInfo) (this : Nat) (attrs : Array Attribute := #[]) (ms : Array MethodInfo := #[]) (fl : Nat := 33) (sup : Nat := 0) (ifs : Array Nat := #[]) (fds : Array FieldInfo := #[]) : ClassFile where
  minorVersion := 0
  majorVersion := 65
  constantPool := pool
  accessFlags := fl
  thisClass := this
  superClass := sup
  interfaces := ifs
  fields := fds
  methods := ms
  attributes := attrs
def plain (name : String) (sup : Option ClassId) : Class where
  name := name
  kind := .ordinary
  loader := none
  accessFlags := 33
  super := sup
  interfaces := #[]
  cf := none
  fields := #[]
  methods := #[]
  instanceTypes := #[]
  staticTypes := #[]
  resolved := #[]
  callSites := []
  init := .initialized
  statics := none
  mirror := none

def pool0 : Array CpInfo := pool [(5, u "<init>"), (0, u "()V"), (1, .class_ 10), (1, u "java/lang/Object")] 113

def k0m0 : Method := { name := "<init>", desc := "()V", sig := { parameters := [], returnType := none }, accessFlags := 1, code := none }
/-- java/lang/Object -/
def k0 : Class := { plain "java/lang/Object" none with
  accessFlags := 33
  interfaces := #[]
  cf := some (fileOf pool0 8 #[] #[{ accessFlags := 1, nameIndex := 5, descriptorIndex := 6, attributes := #[] }] 33 0 #[] #[])
  fields := #[]
  methods := #[k0m0]
  instanceTypes := #[]
  staticTypes := #[]
  resolved := Array.replicate 124 none
  statics := none }

def pool1 : Array CpInfo := pool [(2, .class_ 4), (1, u "java/lang/Object"), (0, u "<init>"), (0, u "()V"), (0, .integer 2147483647), (0, .methodref 9 10), (0, .class_ 11), (0, .nameAndType 12 13), (0, u "com/example/podflow/podflow/simulation/SamplingVotingPolicyWinnerPinLaw"), (0, u "reference"), (0, u "(IIIIII)I"), (0, .methodref 15 16), (0, .class_ 17), (0, .nameAndType 18 19), (0, u "com/example/podflow/podflow/simulation/SamplingVotingPolicy"), (0, u "winner"), (0, u "(I[I)I"), (0, .methodref 21 22), (0, .class_ 23), (0, .nameAndType 24 25), (0, u "java/lang/Math"), (0, u "max"), (0, u "(II)I"), (2, u "law"), (0, u "(IIIIII)Z")] 5

def k1m0 : Method := { name := "<init>", desc := "()V", sig := { parameters := [], returnType := none }, accessFlags := 1, code := none }
def k1c1 : Code := { maxStack := 6, maxLocals := 11, code := code, exceptionTable := #[], attributes := #[] }
def k1m1 : Method := { name := "law", desc := "(IIIIII)Z", sig := { parameters := [.int, .int, .int, .int, .int, .int], returnType := some .boolean }, accessFlags := 9, code := some k1c1 }
def k1c2 : Code := { maxStack := 2, maxLocals := 8, code := method_3_code, exceptionTable := #[], attributes := #[] }
def k1m2 : Method := { name := "reference", desc := "(IIIIII)I", sig := { parameters := [.int, .int, .int, .int, .int, .int], returnType := some .int }, accessFlags := 10, code := some k1c2 }
/-- com/example/podflow/podflow/simulation/SamplingVotingPolicyWinnerPinLaw -/
def k1 : Class := { plain "com/example/podflow/podflow/simulation/SamplingVotingPolicyWinnerPinLaw" (some 0) with
  accessFlags := 49
  interfaces := #[]
  cf := some (fileOf pool1 9 #[] #[{ accessFlags := 1, nameIndex := 5, descriptorIndex := 6, attributes := #[] }, { accessFlags := 9, nameIndex := 28, descriptorIndex := 29, attributes := #[] }, { accessFlags := 10, nameIndex := 12, descriptorIndex := 13, attributes := #[] }] 49 2 #[] #[])
  fields := #[]
  methods := #[k1m0, k1m1, k1m2]
  instanceTypes := #[]
  staticTypes := #[]
  resolved := Array.replicate 35 none
  statics := none }

def pool2 : Array CpInfo := pool [(1, .class_ 2), (0, u "java/lang/Math"), (1, .class_ 6), (1, u "java/lang/Object"), (0, u "<init>"), (0, u "()V"), (89, .class_ 100), (1, u "java/lang/Math$RandomNumberGeneratorHolder"), (71, u "negativeZeroFloatBits"), (0, u "J"), (2, u "negativeZeroDoubleBits"), (21, u "max"), (46, u "$assertionsDisabled"), (0, u "Z"), (88, u "(II)I"), (2, u "twoToTheDoubleScaleDown"), (0, u "D"), (4, u "twoToTheDoubleScaleUp"), (9, u "E"), (3, u "PI"), (2, u "TAU"), (2, u "DEGREES_TO_RADIANS"), (0, u "RADIANS_TO_DEGREES")] 94

def k2m0 : Method := { name := "<init>", desc := "()V", sig := { parameters := [], returnType := none }, accessFlags := 2, code := none }
def k2c1 : Code := { maxStack := 2, maxLocals := 2, code := jdk_29_method_65_code, exceptionTable := #[], attributes := #[] }
def k2m1 : Method := { name := "max", desc := "(II)I", sig := { parameters := [.int, .int], returnType := some .int }, accessFlags := 9, code := some k2c1 }
/-- java/lang/Math -/
def k2 : Class := { plain "java/lang/Math" (some 0) with
  accessFlags := 49
  interfaces := #[]
  cf := some (fileOf pool2 1 #[.nestMembers #[98]] #[{ accessFlags := 2, nameIndex := 7, descriptorIndex := 8, attributes := #[] }, { accessFlags := 9, nameIndex := 198, descriptorIndex := 335, attributes := #[] }] 49 4 #[] #[{ accessFlags := 25, nameIndex := 354, descriptorIndex := 339, attributes := #[] }, { accessFlags := 25, nameIndex := 358, descriptorIndex := 339, attributes := #[] }, { accessFlags := 25, nameIndex := 361, descriptorIndex := 339, attributes := #[] }, { accessFlags := 26, nameIndex := 364, descriptorIndex := 339, attributes := #[] }, { accessFlags := 26, nameIndex := 365, descriptorIndex := 339, attributes := #[] }, { accessFlags := 26, nameIndex := 172, descriptorIndex := 173, attributes := #[] }, { accessFlags := 26, nameIndex := 176, descriptorIndex := 173, attributes := #[] }, { accessFlags := 8, nameIndex := 344, descriptorIndex := 339, attributes := #[] }, { accessFlags := 8, nameIndex := 338, descriptorIndex := 339, attributes := #[] }, { accessFlags := 4120, nameIndex := 245, descriptorIndex := 246, attributes := #[] }])
  fields := #[{ name := "E", type := .double, accessFlags := 25, slot := 0, constantValue := 0 }, { name := "PI", type := .double, accessFlags := 25, slot := 1, constantValue := 0 }, { name := "TAU", type := .double, accessFlags := 25, slot := 2, constantValue := 0 }, { name := "DEGREES_TO_RADIANS", type := .double, accessFlags := 26, slot := 3, constantValue := 0 }, { name := "RADIANS_TO_DEGREES", type := .double, accessFlags := 26, slot := 4, constantValue := 0 }, { name := "negativeZeroFloatBits", type := .long, accessFlags := 26, slot := 5, constantValue := 0 }, { name := "negativeZeroDoubleBits", type := .long, accessFlags := 26, slot := 6, constantValue := 0 }, { name := "twoToTheDoubleScaleUp", type := .double, accessFlags := 8, slot := 7, constantValue := 0 }, { name := "twoToTheDoubleScaleDown", type := .double, accessFlags := 8, slot := 8, constantValue := 0 }, { name := "$assertionsDisabled", type := .boolean, accessFlags := 4120, slot := 9, constantValue := 0 }]
  methods := #[k2m0, k2m1]
  instanceTypes := #[]
  staticTypes := #[.double, .double, .double, .double, .double, .long, .long, .double, .double, .boolean]
  resolved := Array.replicate 460 none
  statics := none }

def pool3 : Array CpInfo := pool [(1, .class_ 2), (0, u "com/example/podflow/podflow/simulation/Policy"), (0, .class_ 4), (0, u "java/lang/Object"), (5, .class_ 11), (0, u "com/example/podflow/podflow/simulation/Policy$Factory")] 2

/-- com/example/podflow/podflow/simulation/Policy -/
def k3 : Class := { plain "com/example/podflow/podflow/simulation/Policy" (some 0) with
  accessFlags := 1537
  interfaces := #[]
  cf := some (fileOf pool3 1 #[.nestMembers #[10]] #[] 1537 3 #[] #[])
  fields := #[]
  methods := #[]
  instanceTypes := #[]
  staticTypes := #[]
  resolved := Array.replicate 14 none
  statics := none }

def pool4 : Array CpInfo := pool [(2, .class_ 4), (1, u "java/lang/Object"), (6, .class_ 13), (1, u "com/example/podflow/podflow/simulation/SamplingVotingPolicy"), (0, u "nearest"), (0, u "Lcom/example/podflow/podflow/simulation/NearestPolicy;"), (25, u "idle"), (0, u "Ljava/util/PriorityQueue;"), (11, u "demand"), (0, u "Lcom/example/podflow/podflow/simulation/Demand;"), (2, u "sequences"), (0, u "I"), (2, u "sequenceRequests"), (2, u "random"), (0, u "Ljava/util/random/RandomGenerator;"), (18, .class_ 86), (0, u "com/example/podflow/podflow/simulation/SamplingVotingPolicy$Idle"), (98, u "winner"), (0, u "(I[I)I"), (34, .class_ 222), (0, u "com/example/podflow/podflow/simulation/Policy"), (0, u "EVERY_STATION")] 60

def k4c0 : Code := { maxStack := 3, maxLocals := 4, code := prog_66_method_3_code, exceptionTable := #[], attributes := #[] }
def k4m0 : Method := { name := "winner", desc := "(I[I)I", sig := { parameters := [.int, (.array .int)], returnType := some .int }, accessFlags := 8, code := some k4c0 }
/-- com/example/podflow/podflow/simulation/SamplingVotingPolicy -/
def k4 : Class := { plain "com/example/podflow/podflow/simulation/SamplingVotingPolicy" (some 0) with
  accessFlags := 49
  interfaces := #[3]
  cf := some (fileOf pool4 11 #[.nestMembers #[85]] #[{ accessFlags := 8, nameIndex := 185, descriptorIndex := 186, attributes := #[] }] 49 2 #[221] #[{ accessFlags := 24, nameIndex := 223, descriptorIndex := 59, attributes := #[] }, { accessFlags := 18, nameIndex := 54, descriptorIndex := 55, attributes := #[] }, { accessFlags := 18, nameIndex := 58, descriptorIndex := 59, attributes := #[] }, { accessFlags := 18, nameIndex := 62, descriptorIndex := 59, attributes := #[] }, { accessFlags := 18, nameIndex := 65, descriptorIndex := 66, attributes := #[] }, { accessFlags := 18, nameIndex := 14, descriptorIndex := 15, attributes := #[] }, { accessFlags := 18, nameIndex := 41, descriptorIndex := 42, attributes := #[] }])
  fields := #[{ name := "EVERY_STATION", type := .int, accessFlags := 24, slot := 0, constantValue := 0 }, { name := "demand", type := (.object "com/example/podflow/podflow/simulation/Demand"), accessFlags := 18, slot := 0, constantValue := 0 }, { name := "sequences", type := .int, accessFlags := 18, slot := 1, constantValue := 0 }, { name := "sequenceRequests", type := .int, accessFlags := 18, slot := 2, constantValue := 0 }, { name := "random", type := (.object "java/util/random/RandomGenerator"), accessFlags := 18, slot := 3, constantValue := 0 }, { name := "nearest", type := (.object "com/example/podflow/podflow/simulation/NearestPolicy"), accessFlags := 18, slot := 4, constantValue := 0 }, { name := "idle", type := (.object "java/util/PriorityQueue"), accessFlags := 18, slot := 5, constantValue := 0 }]
  methods := #[k4m0]
  instanceTypes := #[(.object "com/example/podflow/podflow/simulation/Demand"), .int, .int, (.object "java/util/random/RandomGenerator"), (.object "com/example/podflow/podflow/simulation/NearestPolicy"), (.object "java/util/PriorityQueue")]
  staticTypes := #[.int]
  resolved := Array.replicate 284 none
  statics := none }

def pool5 : Array CpInfo := pool [(1, u "java/lang/Cloneable"), (0, .class_ 1), (0, u "java/lang/Object"), (0, .class_ 3)] 3

/-- java/lang/Cloneable -/
def k5 : Class := { plain "java/lang/Cloneable" (some 0) with
  accessFlags := 1537
  interfaces := #[]
  cf := some (fileOf pool5 2 #[] #[] 1537 4 #[] #[])
  fields := #[]
  methods := #[]
  instanceTypes := #[]
  staticTypes := #[]
  resolved := Array.replicate 8 none
  statics := none }

def pool6 : Array CpInfo := pool [(1, u "java/io/Serializable"), (0, .class_ 1), (0, u "java/lang/Object"), (0, .class_ 3)] 3

/-- java/io/Serializable -/
def k6 : Class := { plain "java/io/Serializable" (some 0) with
  accessFlags := 1537
  interfaces := #[]
  cf := some (fileOf pool6 2 #[] #[] 1537 4 #[] #[])
  fields := #[]
  methods := #[]
  instanceTypes := #[]
  staticTypes := #[]
  resolved := Array.replicate 8 none
  statics := none }

/-- the primitive byte -/
def k7 : Class := { plain "byte" none with kind := .primitive 'B', accessFlags := 0x411 }
/-- [B -/
def k8 : Class := { plain "[B" (some 0) with kind := .array 7 .byte, interfaces := #[5, 6], accessFlags := 1041 }

/-- the primitive int -/
def k9 : Class := { plain "int" none with kind := .primitive 'I', accessFlags := 0x411 }
/-- [I -/
def k10 : Class := { plain "[I" (some 0) with kind := .array 9 .int, interfaces := #[5, 6], accessFlags := 1041 }

def heap : Heap := #[]
def classes : Array Class := #[k0, k1, k2, k3, k4, k5, k6, k7, k8, k9, k10]
def interned : List (Array UInt16 × Addr) := []
def slotsUsed : Nat := 0
def theMethod : MethodId := ⟨1, 1⟩
def args0 : Array Value := #[.int 65, .int 2, .int 3, .int 4, .int 5, .int 6]
def aboutOver (below : List Frame) : State where
  vm := { classes := classes, interned := interned.toArray }
  heap := heap
  slotsUsed := slotsUsed
  threads := #[{ frames := .invoking theMethod args0 :: below }]
def below0 : List Frame := [.native { method := ⟨0, 0⟩, args := #[] }]
def about1 : State := aboutOver below0
def p0 : Program := .bare "" "" ""
def e0 : Env := launch0.env 0 0 0
theorem w_frames : about1.frames = Frame.invoking theMethod args0 :: below0 := rfl
set_option maxRecDepth 65536 in
theorem w_args : argsFit about1.vm theMethod args0 = true := by decide +kernel
set_option maxRecDepth 65536 in
theorem w_heap : heapFits about1 = true := by decide +kernel
set_option maxRecDepth 65536 in
theorem w_runnable : about1.curStatus? = some .runnable := by decide +kernel
set_option maxRecDepth 65536 in
theorem w_alone : about1.alone = true := by decide +kernel
set_option maxRecDepth 65536 in
theorem w_named : about1.methodNamed? x = some theMethod := by decide +kernel
set_option maxRecDepth 65536 in
theorem w_hears : about1.hears theMethod below0 = true := by decide +kernel
set_option maxRecDepth 65536 in
theorem w_ripe : about1.ripe theMethod args0 below0 = true := by decide +kernel
theorem w_running : about1.status = .running := rfl
set_option maxRecDepth 65536 in
theorem w_room : about1.hasRoom e0.platform room_1 = true :=
  launch0.hasRoom_least _ room_1 (by decide +kernel) (by decide +kernel) (by decide +kernel) (by decide +kernel) (by decide +kernel) (by decide +kernel)
theorem allAtoms_all (ts : List Jvm.Cond) (a : Array Jvm.Value) (st : Jvm.State) : (allAtoms ts).before a st = ts.all (fun c => c.before a st) := by
  induction ts with
  | nil => rfl
  | cons c t ih =>
    show (Jvm.Cond.and c (allAtoms t)).before a st = _
    rw [Jvm.Cond.before_and, ih, List.all_cons]
def words1 : List Jvm.Cond := Jvm.Cond.code x code maxLocals ret :: tables_1
/-- a 'code' word, met by the world's own term for the bytes: nothing is compared byte by byte -/
theorem code_word {y : MethodName} {bytes : ByteArray} {mx : Nat} {rt : Option FieldType} {a : Array Value} {s : State} {m : MethodId} {meth : Method} {c : Code} (h1 : s.methodNamed? y = some m) (h2 : s.vm.method? m = some meth) (h3 : meth.code = some c) (h4 : c.code = bytes)
    (h5 : (c.maxLocals == mx && c.exceptionTable.isEmpty && decide (c.maxStack ≤ mostOperands) && decide (meth.sig.returnType = rt) && !meth.locks && decide (parseMethodDescriptor y.desc = some meth.sig)) = true) : (Jvm.Cond.code y bytes mx rt).before a s = true := by
  simp only [Bool.and_eq_true, beq_iff_eq, Bool.not_eq_true', decide_eq_true_eq] at h5
  obtain ⟨⟨⟨⟨⟨g1, g2⟩, g3⟩, g4⟩, g5⟩, g6⟩ := h5
  simp [Cond.before, Cond.holds, Cond.value, h1, h2, h3, h4, g1, g2, g3, g4, g5, g6]
def isCode : Jvm.Cond → Bool
  | .code _ _ _ _ => true
  | _ => false
theorem all_split {L : List Jvm.Cond} {P : Jvm.Cond → Bool} (h1 : L.all (fun c => isCode c || P c) = true) (h2 : ∀ c ∈ L.filter isCode, P c = true) : L.all P = true := by
  refine List.all_eq_true.mpr fun c hc => ?_
  have h := List.all_eq_true.mp h1 c hc
  rcases Bool.eq_false_or_eq_true (isCode c) with hi | hi
  · exact h2 c (List.mem_filter.mpr ⟨hc, hi⟩)
  · simpa [hi] using h
set_option maxRecDepth 65536 in
theorem w_c0 : (Jvm.Cond.code x code maxLocals ret).before args0 about1 = true := code_word (m := ⟨1, 1⟩) (meth := k1m1) (c := k1c1) (by decide +kernel) rfl rfl rfl (by decide +kernel)
set_option maxRecDepth 65536 in
theorem w_c1 : (Jvm.Cond.code ({ cls := "com/example/podflow/podflow/simulation/SamplingVotingPolicyWinnerPinLaw", name := "reference", desc := "(IIIIII)I" } : Jvm.MethodName) method_3_code (8 : Nat) (Option.some Jvm.ClassFile.FieldType.int)).before args0 about1 = true := code_word (m := ⟨1, 2⟩) (meth := k1m2) (c := k1c2) (by decide +kernel) rfl rfl rfl (by decide +kernel)
set_option maxRecDepth 65536 in
theorem w_c2 : (Jvm.Cond.code ({ cls := "java/lang/Math", name := "max", desc := "(II)I" } : Jvm.MethodName) jdk_29_method_65_code (2 : Nat) (Option.some Jvm.ClassFile.FieldType.int)).before args0 about1 = true := code_word (m := ⟨2, 1⟩) (meth := k2m1) (c := k2c1) (by decide +kernel) rfl rfl rfl (by decide +kernel)
set_option maxRecDepth 65536 in
theorem w_c3 : (Jvm.Cond.code ({ cls := "com/example/podflow/podflow/simulation/SamplingVotingPolicy", name := "winner", desc := "(I[I)I" } : Jvm.MethodName) prog_66_method_3_code (4 : Nat) (Option.some Jvm.ClassFile.FieldType.int)).before args0 about1 = true := code_word (m := ⟨4, 0⟩) (meth := k4m0) (c := k4c0) (by decide +kernel) rfl rfl rfl (by decide +kernel)
def codes1 : List Jvm.Cond := [Jvm.Cond.code x code maxLocals ret, Jvm.Cond.code ({ cls := "com/example/podflow/podflow/simulation/SamplingVotingPolicyWinnerPinLaw", name := "reference", desc := "(IIIIII)I" } : Jvm.MethodName) method_3_code (8 : Nat) (Option.some Jvm.ClassFile.FieldType.int), Jvm.Cond.code ({ cls := "java/lang/Math", name := "max", desc := "(II)I" } : Jvm.MethodName) jdk_29_method_65_code (2 : Nat) (Option.some Jvm.ClassFile.FieldType.int), Jvm.Cond.code ({ cls := "com/example/podflow/podflow/simulation/SamplingVotingPolicy", name := "winner", desc := "(I[I)I" } : Jvm.MethodName) prog_66_method_3_code (4 : Nat) (Option.some Jvm.ClassFile.FieldType.int)]
set_option maxRecDepth 65536 in
theorem codes_eq : words1.filter isCode = codes1 := rfl
theorem w_codes : ∀ c ∈ words1.filter isCode, c.before args0 about1 = true := by
  rw [codes_eq]
  intro c hc
  simp only [codes1, List.mem_cons, List.not_mem_nil, or_false] at hc
  rcases hc with rfl | rfl | rfl | rfl
  · exact w_c0
  · exact w_c1
  · exact w_c2
  · exact w_c3
set_option maxRecDepth 65536 in
theorem w_t1 : words1.all (fun c => isCode c || c.before args0 about1) = true := by decide +kernel
theorem w_tables : (allAtoms (Jvm.Cond.code x code maxLocals ret :: tables_1)).before args0 about1 = true := by
  rw [allAtoms_all]
  show words1.all (fun c => c.before args0 about1) = true
  refine all_split ?_ w_codes
  rw [w_t1]
set_option maxRecDepth 65536 in
theorem w_case : (Jvm.Cond.and given_1 narrow_1).before args0 about1 = true := by decide +kernel
theorem w_applies : (headSpec (Jvm.Cond.code x code maxLocals ret :: tables_1) room_1).applies x e0.platform about1 = true :=
  (Spec.applies_iff w_frames).mpr ⟨w_running, w_runnable, w_alone, w_named, w_hears, w_ripe, w_room, w_tables⟩
theorem atStart : AtStart classFile x code maxLocals ret World_1 tables_1 room_1 Calls_1 rest_1 Pre_1 launch0 p0 e0 about1 theMethod args0 below0 :=
  ⟨lists_1, trivial, launch0.admits_env _ _ _, launch0.least_env, fairChoices_fair.cas, fairChoices_fair.clock, w_frames, w_args, w_heap, w_applies, trivial, trivial, w_case⟩
end start1
theorem witness_1 : WitnessClaimed_1 := ⟨start1.p0, start1.e0, start1.about1, start1.theMethod, start1.args0, start1.below0, start1.atStart⟩
end Jvm.Pilot.@@N@@
