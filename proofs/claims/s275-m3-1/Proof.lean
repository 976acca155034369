import JvmDerived
import JvmDerived.Pilot.@@N@@Statement
import JvmDerived.Pilot.@@N@@Code
set_option linter.unusedVariables false
set_option linter.unusedSimpArgs false
namespace Jvm.RoadKit
open Sem ClassFile Op Lib Jvm.Stand Jvm.Free Jvm.LawKit
def RAr (Z : State) (h : Heap) (a : Addr) (ty : FieldType) (n : Int32) (f : Nat → Addr) : Prop := ∃ c : Cell, Arr Z h a c ty ∧ c.slots.size = n.toNatClampNeg ∧ ¬ n < 0 ∧ ∀ i, i < c.slots.size → c.slots[i]? = some (.ref (f i))
section
variable {Z : State} {h h' : Heap} {a b : Addr} {ty : FieldType} {n : Int32} {f : Nat → Addr} {sl : Nat} {v : Value} {ws : List Addr}
theorem RAr.lt (F : RAr Z h a ty n f) : a < h.size := by obtain ⟨c, A, -⟩ := F; exact A.lt
theorem RAr.ext (F : RAr Z h a ty n f) (E : Ext h h') : RAr Z h' a ty n f := by obtain ⟨c, A, r⟩ := F; exact ⟨c, A.ext E, r⟩
theorem RAr.other (F : RAr Z h b ty n f) (W : Wr h h' a sl v) (q : b ≠ a) : RAr Z h' b ty n f := by obtain ⟨c, A, r⟩ := F; exact ⟨c, A.other W q, r⟩
theorem RAr.keep (F : RAr Z h a ty n f) (K : Keep h h' ws) (q : a ∉ ws) : RAr Z h' a ty n f := by obtain ⟨c, A, r⟩ := F; exact ⟨c, ⟨K.2.1 a c A.1 q, A.2⟩, r⟩
theorem own_staK0 {C m d : String} {w : Value} (S : Sta Z h C m d w) (K : Keep h h' []) : Sta Z h' C m d w := by
  obtain ⟨cf, i, k, f, st, cell, h1, h2, h3, h4, h5, h6, h7⟩ := S
  exact ⟨cf, i, k, f, st, cell, h1, h2, h3, h4, K.2.1 st cell h5 nin0, h6, h7⟩
theorem own_staK1 {C m d D : String} {w : Value} (S : Sta Z h C m d w) (K : Keep h h' [a]) (E : Exa Z h a D) : Sta Z h' C m d w := by
  obtain ⟨cf, i, k, f, st, cell, h1, h2, h3, h4, h5, h6, h7⟩ := S
  obtain ⟨c2, k2, g1, g2, g3, g4, g5⟩ := E
  have ne : st ≠ a := fun e => by
    subst e
    cases h5.symm.trans g1
    rw [g4] at h6
    cases h6
  exact ⟨cf, i, k, f, st, cell, h1, h2, h3, h4, K.2.1 st cell h5 (ninS ne nin0), h6, h7⟩
end
def IAr (Z : State) (h : Heap) (a : Addr) (ty : FieldType) (n : Int32) (f : Nat → Int32) : Prop := ∃ c : Cell, Arr Z h a c ty ∧ c.slots.size = n.toNatClampNeg ∧ ¬ n < 0 ∧ ∀ i, i < c.slots.size → c.slots[i]? = some (.int (f i))
def ownU (f : Nat → Int32) (j : Nat) (v : Int32) : Nat → Int32 := fun i => if i = j then v else f i
section
variable {Z : State} {h h' : Heap} {a b : Addr} {ty : FieldType} {n : Int32} {f : Nat → Int32} {sl : Nat} {v : Value} {ws : List Addr}
theorem IAr.lt (F : IAr Z h a ty n f) : a < h.size := by obtain ⟨c, A, -⟩ := F; exact A.lt
theorem IAr.ext (F : IAr Z h a ty n f) (E : Ext h h') : IAr Z h' a ty n f := by obtain ⟨c, A, r⟩ := F; exact ⟨c, A.ext E, r⟩
theorem IAr.other (F : IAr Z h b ty n f) (W : Wr h h' a sl v) (q : b ≠ a) : IAr Z h' b ty n f := by obtain ⟨c, A, r⟩ := F; exact ⟨c, A.other W q, r⟩
theorem IAr.keep (F : IAr Z h a ty n f) (K : Keep h h' ws) (q : a ∉ ws) : IAr Z h' a ty n f := by obtain ⟨c, A, r⟩ := F; exact ⟨c, ⟨K.2.1 a c A.1 q, A.2⟩, r⟩
theorem IAr.nn (F : IAr Z h a ty n f) : ¬ n < 0 := by obtain ⟨c, A, S, q, r⟩ := F; exact q
theorem IAr.new {k : ClassId} {z : Int32} (A : Arr Z h a (newA k ty z) ty) (q : ¬ z < 0) (hd : defaultValue ty = .int 0) : IAr Z h a ty z (fun _ => 0) := by
  obtain ⟨c, A', -, S, q', H, -⟩ := Arv.new A q
  exact ⟨c, A', S, q', fun i hi => by have h1 := H i hi; rw [hd] at h1; simpa using h1⟩
theorem IAr.set {j : Nat} {x : Int32} (F : IAr Z h a ty n f) (W : Wr h h' a j (.int x)) : IAr Z h' a ty n (ownU f j x) := by
  obtain ⟨c, A, S, q, H⟩ := F
  refine ⟨c.setSlot j (.int x), A.same W, ?_, q, fun i hi => ?_⟩
  · simpa [Cell.setSlot] using S
  · have hi' : i < c.slots.size := by simpa [Cell.setSlot] using hi
    show (c.slots.setIfInBounds j (.int x))[i]? = some (.int (if i = j then x else f i))
    by_cases e : i = j
    · subst e
      rw [if_pos rfl, Array.getElem?_setIfInBounds_self_of_lt hi']
    · rw [if_neg e, Array.getElem?_setIfInBounds_ne (Ne.symm e)]
      exact H i hi'
end
section New
variable {p : Program} {l : Launch} {e : Env} {R : Room} {s : State} {m : MethodId} {args : Array Value} {below : List Frame} {meth : Method} {c : Code} {T : State} {locs : List Loc} {cells slots : Nat}
theorem retI (X : Stand p l e R s m args below meth c T locs cells slots) (hx : p.tables.exec = Jvm.exec) {pc : Nat} {Ls : Array Slot} {z : Int32} {rest : List Value} (hret : meth.sig.returnType = some .int) (hd : decode c.code pc = .ok (.ireturn, 1)) {fs : List Frame}
    (hl : ∀ (f : JFrame) (acts : List Action), f.method = m → f.locked = none → f.entered = [] → (doReturn e (T.setTop f) acts (some (.int z))).1 = T.setFrames fs) : Steps p.tables e below (T.setTop (mkF m pc Ls (.int z :: rest))) (T.setFrames fs) := by
  have hm' : T.vm.method? m = some meth := X.method'
  have hn : narrow .int (.int z) = .int z := rfl
  show Steps p.tables e below (T.setTop { method := m, pc := pc, locals := Ls, stack := _ :: rest, locked := none }) _
  jvm_step X.here [X.here.top, hx, hd, hm', hret, hn]
  first | (intro acts; rw [hl _ acts rfl rfl rfl]) | rw [hl _ _ rfl rfl rfl]
  exact Steps.refl _
theorem ldI {Z : State} {h : Heap} (X : Stand p l e R s m args below meth c T locs cells slots) (hx : p.tables.exec = Jvm.exec) (hZ : Z.Warmed39 s.vm) (eT : T.heap = h) {a : Addr} {n : Int32} {f : Nat → Int32} (F : IAr Z h a .int n f) {j : Int32} (hj : ¬ j < 0 ∧ j < n) {g : JFrame} (hg : g.method = m) {rest : List Value} (hs : g.stack = .int j :: .ref a :: rest) (hd : decode c.code g.pc = .ok (.iaload, 1)) {target : State}
    (hr : Steps p.tables e below (T.setTop { g with pc := g.pc + 1, stack := .int (f j.toNatClampNeg) :: rest }) target) : Steps p.tables e below (T.setTop g) target := by
  obtain ⟨cl, A, S, q, H⟩ := F
  exact X.iaload hx (by rw [eT]; exact A.1) (State.isArrayOf_alike hZ.alike A.2.1) A.2.2 (inb_of S hj) (H _ (Nat.lt_of_not_le fun y => inb_of S hj (Or.inr y))) hg hs hd _ hr
theorem sI {Z : State} {h : Heap} (X : Stand p l e R s m args below meth c T locs cells slots) (hx : p.tables.exec = Jvm.exec) (hZ : Z.Warmed39 s.vm) (eT : T.heap = h) {a : Addr} {n : Int32} {f : Nat → Int32} (F : IAr Z h a .int n f) {j : Int32} {x : Int32} (hj : ¬ j < 0 ∧ j < n) {g : JFrame} (hg : g.method = m) {rest : List Value} (hs : g.stack = .int x :: .int j :: .ref a :: rest) (hd : decode c.code g.pc = .ok (.iastore, 1)) :
    ∃ T' h', Stand p l e R s m args below meth c T' (locs ++ [⟨a, j.toNatClampNeg⟩]) cells slots ∧ T'.heap = h' ∧ Wr h h' a j.toNatClampNeg (.int x) ∧ IAr Z h' a .int n (ownU f j.toNatClampNeg x) ∧ ∀ target, Steps p.tables e below (T'.setTop { g with pc := g.pc + 1, stack := rest }) target → Steps p.tables e below (T.setTop g) target := by
  have F' := F
  obtain ⟨cl, A, S, q, H⟩ := F
  obtain ⟨T', h', X', e', W', st'⟩ := stI X hx hZ eT A (inb_of S hj) hg hs hd
  exact ⟨T', h', X', e', W', F'.set W', st'⟩
theorem alen {Z : State} {h : Heap} (X : Stand p l e R s m args below meth c T locs cells slots) (hx : p.tables.exec = Jvm.exec) (hZ : Z.Warmed39 s.vm) (eT : T.heap = h) {a : Addr} {ty : FieldType} {n : Int32} {f : Nat → Int32} (F : IAr Z h a ty n f) {g : JFrame} (hg : g.method = m) {rest : List Value} (hs : g.stack = .ref a :: rest) (hd : decode c.code g.pc = .ok (.arraylength, 1)) {target : State}
    (hr : Steps p.tables e below (T.setTop { g with pc := g.pc + 1, stack := .int n :: rest }) target) : Steps p.tables e below (T.setTop g) target := by
  obtain ⟨cl, A, S, q, H⟩ := F
  refine X.arraylength hx (by rw [eT]; exact A.1) (State.isArrayOf_alike hZ.alike A.2.1) hg hs hd _ ?_
  rw [len_of S q]
  exact hr
theorem ldR {Z : State} {h : Heap} (X : Stand p l e R s m args below meth c T locs cells slots) (hx : p.tables.exec = Jvm.exec) (hZ : Z.Warmed39 s.vm) (eT : T.heap = h) {a : Addr} {ty : FieldType} {n : Int32} {f : Nat → Addr} (F : RAr Z h a ty n f) (hty : ty.isReference = true) {j : Int32} (hj : ¬ j < 0 ∧ j < n) {g : JFrame} (hg : g.method = m) {rest : List Value} (hs : g.stack = .int j :: .ref a :: rest) (hd : decode c.code g.pc = .ok (.aaload, 1)) {target : State}
    (hr : Steps p.tables e below (T.setTop { g with pc := g.pc + 1, stack := .ref (f j.toNatClampNeg) :: rest }) target) : Steps p.tables e below (T.setTop g) target := by
  obtain ⟨cl, A, S, q, H⟩ := F
  exact X.aaload hx (by rw [eT]; exact A.1) (State.isArrayOf_alike hZ.alike A.2.1) hty A.2.2 (inb_of S hj) (H _ (Nat.lt_of_not_le fun y => inb_of S hj (Or.inr y))) hg hs hd _ hr
end New
end Jvm.RoadKit
namespace Jvm.Pilot.@@N@@
open Jvm Jvm.ClassFile Sem Op Lib Jvm.Free Jvm.Stand Jvm.LawKit Jvm.RoadKit Bundle Jvm.Pilot.@@N@@.Jvm.D
theorem own_eqint {t : Term} {n : Int32} {args : Array Value} {s : State} {idx : List Nat} (h : (Cond.eq t (.int n)).value args s none s idx = some true) : t.eval args s none idx s = some (.int n) := by
  have hn : (Term.int n).eval args s none idx s = some (.int n) := rfl
  simp only [Cond.value] at h
  rw [hn] at h
  cases hv : t.eval args s none idx s with
  | none => simp [hv] at h
  | some v =>
    cases v with
    | int x => simp [hv] at h; rw [h]
    | _ => simp [hv] at h
theorem own_orv {a b : Cond} {args : Array Value} {s : State} {idx : List Nat} (h : (Cond.or a b).value args s none s idx = some true) : a.value args s none s idx = some true ∨ b.value args s none s idx = some true := by
  simp only [Cond.value] at h
  cases ha : a.value args s none s idx with
  | none => simp [ha] at h
  | some x => cases x with
    | true => exact Or.inl rfl
    | false => simp [ha] at h; exact Or.inr h
theorem own_elemv {args : Array Value} {s : State} {t u : Term} {idx : List Nat} {a : Addr} {j v : Int32} {cl : Cell} (ht : t.eval args s none idx s = some (.ref a)) (hu : u.eval args s none idx s = some (.int j)) (hc : s.heap[a]? = some cl) (h : (Cond.eq (Term.elem t u) (.int v)).value args s none s idx = some true) : atv cl j = v :=
  atv_of (elem_in (own_eqint h) ht hu hc).2
theorem own_ofTab {Z : State} {h : Heap} {a : Addr} {cl : Cell} {ty : FieldType} {z : Int32} (T : Tab Z h a cl ty z) (q : cl.slots.size < 2 ^ 31) : IAr Z h a ty z (fun i => atv cl i.toInt32) := by
  obtain ⟨A, S, n, H⟩ := T
  refine ⟨cl, A, S, n, fun i hi => ?_⟩
  have e : i.toInt32.toInt = i := len_toInt (Nat.lt_trans hi q)
  have e2 : i.toInt32.toNatClampNeg = i := by
    show i.toInt32.toInt.toNat = i
    rw [e]; rfl
  have k := H i.toInt32 (by
    rw [e2, Int32.lt_iff_toInt_lt, e, show (0 : Int32).toInt = 0 from rfl]
    omega)
  rw [e2] at k
  exact k
theorem own_len {t : Term} {n : Int32} {args : Array Value} {s : State} {a : Addr} {cl : Cell} (ht : t.eval args s none [] s = some (.ref a)) (hat : s.arrayAt? a = some cl) (h : (Cond.eq (Term.length t) (.int n)).value args s none s [] = some true) : cl.slots.size < 2 ^ 31 ∧ cl.slots.size.toInt32 = n := by
  have k := own_eqint h
  by_cases q : cl.slots.size < 2 ^ 31
  · rw [len_f ht hat q] at k
    exact ⟨q, Value.int.inj (Option.some.inj k)⟩
  · simp [Term.eval, ht, hat, q] at k
theorem own_ci {p w z : Int32} (hz : z = 256) (hw : w = 127) (h1 : ¬ p < (-128 : Int32)) (h2 : ¬ w < p) : ¬ (p + 128) < 0 ∧ (p + 128) < z := by
  subst hz hw
  simp only [Int32.lt_iff_toInt_lt] at h1 h2 ⊢
  have e1 : (-128 : Int32).toInt = -128 := rfl
  have e2 : (127 : Int32).toInt = 127 := rfl
  have e3 : (128 : Int32).toInt = 128 := rfl
  have e4 : (256 : Int32).toInt = 256 := rfl
  have e0 : (0 : Int32).toInt = 0 := rfl
  have q := c_iadd p 128
  have r := rng32 (p + 128)
  omega
theorem own_l1 {q : Int64} (h : -128 ≤ q.toInt ∧ q.toInt ≤ 127) : ¬ (q < (-128 : Int64)) := by
  rw [Int64.lt_iff_toInt_lt, show (-128 : Int64).toInt = -128 from rfl]; omega
theorem own_l2 {q : Int64} (h : -128 ≤ q.toInt ∧ q.toInt ≤ 127) : ¬ ((127 : Int64) < q) := by
  rw [Int64.lt_iff_toInt_lt, show (127 : Int64).toInt = 127 from rfl]; omega
theorem own_li {q : Int64} (h : -128 ≤ q.toInt ∧ q.toInt ≤ 127) : ¬ (q.toInt32 + 128) < 0 ∧ (q.toInt32 + 128) < 256 ∧ (q.toInt32 + 128).toNatClampNeg < 256 := by
  have a := c_l2i q
  have b := c_iadd q.toInt32 128
  have r1 := rng32 q.toInt32
  have r2 := rng32 (q.toInt32 + 128)
  have e3 : (128 : Int32).toInt = 128 := rfl
  simp only [Int32.lt_iff_toInt_lt, show (0 : Int32).toInt = 0 from rfl, show (256 : Int32).toInt = 256 from rfl]
  refine ⟨by omega, by omega, ?_⟩
  show (q.toInt32 + 128).toInt.toNat < 256
  omega
theorem own_nsr {Z : State} {a0 : Array Value} {O K : String} {n : Nat} (w : (Cond.noSuperclass O).before a0 Z = true) (wk : (Cond.instantiable K n).before a0 Z = true) (hn : O ≠ K) : NS Z O K := by
  obtain ⟨c, k, h1, h2, h3, -, -⟩ := Cond.noSuperclass_spec w
  obtain ⟨t, kt, g1, -⟩ := Cond.instantiable_spec wk
  have ne := ids_ne h1 g1 hn
  refine ⟨c, t, h1, g1, fun fuel => ?_⟩
  cases fuel with
  | zero => rfl
  | succ f => simp [Vm.isSubclassAux, ne, h2, h3]
theorem own_no {Z : State} {a0 : Array Value} (hw : ∀ d ∈ tables_1, d.before a0 Z = true) : ∃ c t, Z.vm.findClass "java/lang/Long" = some c ∧ Z.vm.findClass "com/example/millrace/millrace/runtime/aggregate/Count" = some t ∧ Z.vm.assignable c t = false := by
  have w1 := (hw _ (List.mem_of_getElem? (i := 46) rfl))
  have w2 := (hw _ (List.mem_of_getElem? (i := 47) rfl))
  have w3 := (hw _ (List.mem_of_getElem? (i := 48) rfl))
  have w4 := (hw _ (List.mem_of_getElem? (i := 8) rfl))
  have n : NS Z "java/lang/Long" "com/example/millrace/millrace/runtime/aggregate/Count" := NS.step w1 (NS.step w2 (own_nsr w3 w4 (by decide)) (by decide)) (by decide)
  obtain ⟨c, t, h0, g0, n3⟩ := n
  obtain ⟨p, k, kp, h1, h2, h3, h4, h5, -, h7⟩ := Cond.superclass_spec h0 w1
  obtain ⟨t', kt, g1, g2, g3, g4, -⟩ := Cond.instantiable_spec w4
  cases g0.symm.trans g1
  have g4' : kt.isInterface = false := by
    cases hq : kt.isInterface
    · rfl
    · rw [hq] at g4; cases g4
  have ne := ids_ne h0 g0 (by decide)
  refine ⟨c, t, h0, g0, ?_⟩
  show Z.vm.assignableAux (255 + 1) c t = false
  simp [Vm.assignableAux, ne, h2, g2, h5, g3, g4', Vm.isSubclass, n3]
def own_at (cl : Cell) (i : Nat) : Addr := match cl.slots[i]? with | some (.ref x) => x | _ => 0
theorem own_allE {args : Array Value} {s : State} {t : Term} {a : Addr} {cl : Cell} {K : String} {D : Cond} (ht : ∀ idx, t.eval args s none idx s = some (.ref a)) (hat : s.arrayAt? a = some cl) (hc : s.heap[a]? = some cl) (hl : cl.slots.size < 2 ^ 31)
    (h : (Cond.all t (Cond.and (Cond.exactly (Term.elem t (.index 0)) K) D)).value args s none s [] = some true) : ∀ i, i < cl.slots.size → cl.slots[i]? = some (.ref (own_at cl i)) ∧ Exa s s.heap (own_at cl i) K := by
  intro i hi
  obtain ⟨q, -⟩ := and_e (Cond.all_elim (ht []) hat h i hi)
  obtain ⟨x, c', cell, k, e1, e2, e3, e4, e5, rfl, e7⟩ := Cond.exactly_spec (beq_iff_eq.mpr q : (Cond.exactly (Term.elem t (.index 0)) K).holds args s none s [i] = true)
  have eI : i.toInt32.toInt = i := len_toInt (Nat.lt_trans hi hl)
  have z := (elem_in e1 (ht [i]) rfl hc).2
  have e9 : i.toInt32.toNatClampNeg = i := by
    show i.toInt32.toInt.toNat = i
    rw [eI]; rfl
  rw [e9] at z
  have y : own_at cl i = x := by unfold own_at; rw [z]
  rw [y]
  exact ⟨z, cell, k, e3, e2, e4, e5, e7⟩
theorem own_toR {Z : State} {a : Addr} {cl : Cell} {ty : FieldType} {z : Int32} (A : Arr Z Z.heap a cl ty) (hl : cl.slots.size < 2 ^ 31) (hsz : cl.slots.size.toInt32 = z) (hz : ¬ z < 0) (H : ∀ i, i < cl.slots.size → cl.slots[i]? = some (.ref (own_at cl i))) : RAr Z Z.heap a ty z (own_at cl) :=
  ⟨cl, A, by rw [← hsz]; show _ = cl.slots.size.toInt32.toInt.toNat; rw [len_toInt hl]; rfl, hz, H⟩

theorem pn_0 : plainName "java/lang/Number" = true := by first | (simp [plainName, overriddenIn]; done) | decide +kernel
theorem d10_0 : decode jdk_18_method_1_code 0 = .ok (.aload_n 0, 1) := by decide +kernel
theorem d10_1 : decode jdk_18_method_1_code 1 = .ok (.invokespecial 1, 3) := by decide +kernel
theorem d10_4 : decode jdk_18_method_1_code 4 = .ok (.return_, 1) := by decide +kernel
theorem ef_10 (m : MethodId) (x0 : Addr) : entryFrame m #[(.ref x0)] 1 = mkF m 0 #[.val (.ref x0)] [] := by first | (simp [entryFrame, mkF, argsToLocals, Value.category]; done) | rfl
def Q10 (Z : State) (a1 : Addr) (h0 : Heap) (n0 : Nat) (v : Option Value) (h : Heap) (L : List Loc) : Prop := v = none ∧ Fr n0 L ∧ h = h0
set_option maxRecDepth 65536 in
set_option maxHeartbeats 40000000 in
theorem rm10 (l : Launch) (Z : State) (a0 : Array Value) (hw : ∀ d ∈ tables_1, d.before a0 Z = true) (ws : List Jvm.Cond) (a1 : Addr) (h0 : Heap) (n0 : Nat) (Z0 : n0 ≤ h0.size) :
    MetFree l (⟨"java/lang/Number", "<init>", "()V"⟩ : MethodName) (head1 (Jvm.Cond.code (⟨"java/lang/Number", "<init>", "()V"⟩ : MethodName) jdk_18_method_1_code 1 none :: ws) ({ frames := 1, cells := 0, slots := 0, locals := 12 } : Room)) (fun a U => a = #[(.ref a1)] ∧ Z.Warmed39 U.vm ∧ U.heap = h0) (fun _ _ _ _ _ => True) (fun _ U o U' => ∃ v L, o = .returned v ∧ Q10 Z a1 h0 n0 v U'.heap L ∧ FrameEnd U o U' L ({ frames := 1, cells := 0, slots := 0, locals := 12 } : Room).cells ({ frames := 1, cells := 0, slots := 0, locals := 12 } : Room).slots) := by
  refine MetFree.of_bodySF (plainFor_of_name pn_0) hisR ?_
  intro p e s m args below meth c s₁ Bd hml0 hP hK
  obtain ⟨rfl, hZ, hh⟩ := hP
  have hx := Bd.exec
  have hby := Bd.bytes
  have hml : c.maxLocals = 1 := hml0
  have hown : s.vm.findClass "java/lang/Number" = some m.cls := findClass_of_methodNamed Bd.named
  have hnm := (name_of_methodNamed Bd.named Bd.method).1
  have X0 : Stand p l e ({ frames := 1, cells := 0, slots := 0, locals := 12 } : Room) s m #[(.ref a1)] below meth c s₁ [] 0 0 := Stand.of_body Bd
  have e0 : s₁.heap = h0 := by rw [← hh, Bd.state]; rfl
  have N0 := Fr.nil n0
  have pre0 : ∀ t, Steps p.tables e below (s₁.setTop (mkF m 0 #[.val (.ref a1)] [])) t → Steps p.tables e below (s₁.setTop (entryFrame m #[(.ref a1)] 1)) t := fun t k => castTop (ef_10 m a1) k
  obtain ⟨T2, X2, e2, st2⟩ := initO X0 hx hZ hown (hw _ (List.mem_of_getElem? (i := 62) rfl)) (hw _ (List.mem_of_getElem? (i := 14) rfl)) (hw _ (List.mem_of_getElem? (i := 15) rfl)) e0 (g := (mkF m 1 #[.val (.ref a1)] [(.ref a1)])) rfl (by rw [hml]; rfl) rfl (hb hby d10_1) (by decide) (W := 0) (by show 2 * 0 + _ ≤ _; exact Nat.le_of_eq rfl) (by decide)
  obtain ⟨fs, hr, hrun, hended, hW, hsame⟩ := X2.leave (v := none) (fun _ => rfl)
  refine ⟨_, _, pre0 _ ?_, hrun, hended, _, _, rfl, ?_, ⟨_, rfl⟩, hW, hsame.mono (by decide) (by decide)⟩
  · show Steps p.tables e below (s₁.setTop (mkF m 0 #[.val (.ref a1)] [])) _
    refine XS.aloadN X0.here hx rfl (hb hby d10_0) rfl rfl ?_
    show Steps p.tables e below (s₁.setTop (mkF m 1 #[.val (.ref a1)] [(.ref a1)])) _
    refine st2 _ ?_
    show Steps p.tables e below (T2.setTop (mkF m 4 #[.val (.ref a1)] [])) _
    exact X2.returnOut hx Bd.returns (hb hby d10_4) hr
  · show Q10 Z a1 h0 n0 _ T2.heap _
    rw [e2]
    exact ⟨rfl, N0, rfl⟩
theorem pd_0 : parseMethodDescriptor "()V" = some ⟨[], none⟩ := by decide +kernel
theorem pn_1 : plainName "java/lang/Integer" = true := by first | (simp [plainName, overriddenIn]; done) | decide +kernel
theorem d9_0 : decode jdk_33_method_23_code 0 = .ok (.aload_n 0, 1) := by decide +kernel
theorem d9_1 : decode jdk_33_method_23_code 1 = .ok (.invokespecial 202, 3) := by decide +kernel
theorem d9_4 : decode jdk_33_method_23_code 4 = .ok (.aload_n 0, 1) := by decide +kernel
theorem d9_5 : decode jdk_33_method_23_code 5 = .ok (.iload_n 1, 1) := by decide +kernel
theorem d9_6 : decode jdk_33_method_23_code 6 = .ok (.putfield 205, 3) := by decide +kernel
theorem d9_9 : decode jdk_33_method_23_code 9 = .ok (.return_, 1) := by decide +kernel
theorem ef_9 (m : MethodId) (x0 : Addr) (x1 : Int32) : entryFrame m #[(.ref x0), (.int x1)] 2 = mkF m 0 #[.val (.ref x0), .val (.int x1)] [] := by first | (simp [entryFrame, mkF, argsToLocals, Value.category]; done) | rfl
def f9_o0 (p2 : Int32) (w_value_a1 : Int32) : Int32 := p2
def Q9 (Z : State) (a1 : Addr) (p2 : Int32) (w_value_a1 : Int32) (h0 : Heap) (n0 : Nat) (v : Option Value) (h : Heap) (L : List Loc) : Prop := v = none ∧ Fr n0 L ∧ Keep h0 h [a1] ∧ Fld Z h a1 "java/lang/Integer" "value" "I" (.int (f9_o0 p2 w_value_a1))
set_option maxRecDepth 65536 in
set_option maxHeartbeats 40000000 in
theorem rm9 (l : Launch) (Z : State) (a0 : Array Value) (hw : ∀ d ∈ tables_1, d.before a0 Z = true) (ws : List Jvm.Cond) (a1 : Addr) (p2 : Int32) (w_value_a1 : Int32) (h0 : Heap) (n0 : Nat) (Z0 : n0 ≤ h0.size) (F_value_a1 : Fld Z h0 a1 "java/lang/Integer" "value" "I" (.int w_value_a1)) (E_a1 : Exa Z h0 a1 "java/lang/Integer") (g_a1 : n0 ≤ a1) :
    MetFree l (⟨"java/lang/Integer", "<init>", "(I)V"⟩ : MethodName) (head1 (Jvm.Cond.code (⟨"java/lang/Integer", "<init>", "(I)V"⟩ : MethodName) jdk_33_method_23_code 2 none :: ws) ({ frames := 2, cells := 0, slots := 0, locals := 24 } : Room)) (fun a U => a = #[(.ref a1), (.int p2)] ∧ Z.Warmed39 U.vm ∧ U.heap = h0) (fun _ _ _ _ _ => True) (fun _ U o U' => ∃ v L, o = .returned v ∧ Q9 Z a1 p2 w_value_a1 h0 n0 v U'.heap L ∧ FrameEnd U o U' L ({ frames := 2, cells := 0, slots := 0, locals := 24 } : Room).cells ({ frames := 2, cells := 0, slots := 0, locals := 24 } : Room).slots) := by
  refine MetFree.of_bodySF (plainFor_of_name pn_1) hisR ?_
  intro p e s m args below meth c s₁ Bd hml0 hP hK
  obtain ⟨rfl, hZ, hh⟩ := hP
  have hx := Bd.exec
  have hby := Bd.bytes
  have hml : c.maxLocals = 2 := hml0
  have hown : s.vm.findClass "java/lang/Integer" = some m.cls := findClass_of_methodNamed Bd.named
  have hnm := (name_of_methodNamed Bd.named Bd.method).1
  have X0 : Stand p l e ({ frames := 2, cells := 0, slots := 0, locals := 24 } : Room) s m #[(.ref a1), (.int p2)] below meth c s₁ [] 0 0 := Stand.of_body Bd
  have e0 : s₁.heap = h0 := by rw [← hh, Bd.state]; rfl
  have N0 := Fr.nil n0
  have pre0 : ∀ t, Steps p.tables e below (s₁.setTop (mkF m 0 #[.val (.ref a1), .val (.int p2)] [])) t → Steps p.tables e below (s₁.setTop (entryFrame m #[(.ref a1), (.int p2)] 2)) t := fun t k => castTop (ef_9 m a1 p2) k
  obtain ⟨_, _, ⟨T3, L3, k3, n3⟩, -, X3, ⟨Lc3, hQ3, l3, y3, z3⟩, st3⟩ := X0.specialBack hx (y := (⟨"java/lang/Number", "<init>", "()V"⟩ : MethodName)) rfl hown (mvT hZ (hw _ (List.mem_of_getElem? (i := 56) rfl))) (mvT hZ (hw _ (List.mem_of_getElem? (i := 57) rfl))) (mvT hZ (hw _ (List.mem_of_getElem? (i := 61) rfl))) (by decide) (backOf (W := 0) (rm10 l Z a0 hw [] a1 h0 n0 Z0 ) hZ (hw _ (List.mem_of_getElem? (i := 61) rfl)) (hw _ (List.mem_of_getElem? (i := 60) rfl)) (by decide) (by decide)) (g := (mkF m 1 #[.val (.ref a1), .val (.int p2)] [(.ref a1)])) rfl (by rw [hml]; rfl) (Steps.refl _) (a := a1) (argsL := []) (rest := []) (lenOf pd_0 rfl) rfl (by show 2 * 0 + _ ≤ _; exact Nat.le_of_eq rfl) (hb hby d9_1) (fun _ _ => ⟨rfl, e0, (by decide : 0 + 0 ≤ _), (by decide : 0 + 0 ≤ _)⟩)
  dsimp only [Pt.U, Pt.locs, Pt.cells, Pt.slots] at X3 l3 y3 z3 st3 hQ3
  subst l3 y3 z3
  obtain ⟨rfl, N3q, e3⟩ := hQ3
  have N3 := Fr.app N0 N3q
  obtain ⟨T4, h4, X4, e4, W4, st4⟩ := putF X3 hx hZ hown (host := "") (Or.inl (hw _ (List.mem_of_getElem? (i := 63) rfl))) Via.refl e3 F_value_a1 E_a1 (Or.inr ⟨(hw _ (List.mem_of_getElem? (i := 64) rfl)), rfl, hnm⟩) (hw _ (List.mem_of_getElem? (i := 51) rfl)) (ty := .int) (by decide) rfl rfl (g := (mkF m 6 #[.val (.ref a1), .val (.int p2)] [(.int p2), (.ref a1)])) rfl rfl (hb hby d9_6)
  have N4 := Fr.snoc X4 N3 g_a1
  have c5 : n0 ≤ h4.size := Nat.le_trans Z0 (Keep.of_wr W4).1
  have c6 : Fld Z h4 a1 "java/lang/Integer" "value" "I" (.int p2) := F_value_a1.same W4
  have c7 : Exa Z h4 a1 "java/lang/Integer" := E_a1.wr W4
  have c8 : Keep h0 h4 [a1] := (Keep.refl h0 [a1]).wr W4 (Or.inl (List.mem_of_getElem? (i := 0) rfl))
  have eq1 : (f9_o0 p2 w_value_a1) = p2 := rfl
  obtain ⟨fs, hr, hrun, hended, hW, hsame⟩ := X4.leave (v := none) (fun _ => rfl)
  refine ⟨_, _, pre0 _ ?_, hrun, hended, _, _, rfl, ?_, ⟨_, rfl⟩, hW, hsame.mono (by decide) (by decide)⟩
  · show Steps p.tables e below (s₁.setTop (mkF m 0 #[.val (.ref a1), .val (.int p2)] [])) _
    refine XS.aloadN X0.here hx rfl (hb hby d9_0) rfl rfl ?_
    show Steps p.tables e below (s₁.setTop (mkF m 1 #[.val (.ref a1), .val (.int p2)] [(.ref a1)])) _
    refine st3.trans ?_
    show Steps p.tables e below (T3.setTop (mkF m 4 #[.val (.ref a1), .val (.int p2)] [])) _
    refine XS.aloadN X3.here hx rfl (hb hby d9_4) rfl rfl ?_
    show Steps p.tables e below (T3.setTop (mkF m 5 #[.val (.ref a1), .val (.int p2)] [(.ref a1)])) _
    refine XS.iloadN X3.here hx rfl (hb hby d9_5) rfl ?_
    show Steps p.tables e below (T3.setTop (mkF m 6 #[.val (.ref a1), .val (.int p2)] [(.int p2), (.ref a1)])) _
    refine st4 _ ?_
    show Steps p.tables e below (T4.setTop (mkF m 9 #[.val (.ref a1), .val (.int p2)] [])) _
    exact X4.returnOut hx Bd.returns (hb hby d9_9) hr
  · show Q9 Z a1 p2 w_value_a1 h0 n0 _ T4.heap _
    rw [e4]
    exact ⟨rfl, N4, c8, (by rw [eq1]; exact c6)⟩
theorem pd_1 : parseMethodDescriptor "(I)V" = some ⟨[.int], none⟩ := by decide +kernel
theorem d1_0 : decode jdk_33_method_22_code 0 = .ok (.iload_n 0, 1) := by decide +kernel
theorem d1_1 : decode jdk_33_method_22_code 1 = .ok (.bipush (-128), 2) := by decide +kernel
theorem d1_3 : decode jdk_33_method_22_code 3 = .ok (.if_icmp .lt 20, 3) := by decide +kernel
theorem d1_6 : decode jdk_33_method_22_code 6 = .ok (.iload_n 0, 1) := by decide +kernel
theorem d1_7 : decode jdk_33_method_22_code 7 = .ok (.getstatic 191, 3) := by decide +kernel
theorem d1_10 : decode jdk_33_method_22_code 10 = .ok (.if_icmp .gt 13, 3) := by decide +kernel
theorem d1_13 : decode jdk_33_method_22_code 13 = .ok (.getstatic 195, 3) := by decide +kernel
theorem d1_16 : decode jdk_33_method_22_code 16 = .ok (.iload_n 0, 1) := by decide +kernel
theorem d1_17 : decode jdk_33_method_22_code 17 = .ok (.sipush 128, 3) := by decide +kernel
theorem d1_20 : decode jdk_33_method_22_code 20 = .ok (.iadd, 1) := by decide +kernel
theorem d1_21 : decode jdk_33_method_22_code 21 = .ok (.aaload, 1) := by decide +kernel
theorem d1_22 : decode jdk_33_method_22_code 22 = .ok (.areturn, 1) := by decide +kernel
theorem d1_23 : decode jdk_33_method_22_code 23 = .ok (.new 1, 3) := by decide +kernel
theorem d1_26 : decode jdk_33_method_22_code 26 = .ok (.dup, 1) := by decide +kernel
theorem d1_27 : decode jdk_33_method_22_code 27 = .ok (.iload_n 0, 1) := by decide +kernel
theorem d1_28 : decode jdk_33_method_22_code 28 = .ok (.invokespecial 199, 3) := by decide +kernel
theorem d1_31 : decode jdk_33_method_22_code 31 = .ok (.areturn, 1) := by decide +kernel
theorem ef_1 (m : MethodId) (x0 : Int32) : entryFrame m #[(.int x0)] 1 = mkF m 0 #[.val (.int x0)] [] := by first | (simp [entryFrame, mkF, argsToLocals, Value.category]; done) | rfl
def Q1 (Z : State) (p1 : Int32) (w_high : Int32) (w_cache : Addr) (z_w_cache : Int32) (c_w_cache : Nat → Addr) (h0 : Heap) (n0 : Nat) (v : Option Value) (h : Heap) (L : List Loc) : Prop := (∃ r : Addr, v = some (.ref r)) ∧ Fr n0 L ∧ Keep h0 h []
set_option maxRecDepth 65536 in
set_option maxHeartbeats 40000000 in
theorem rm1 (l : Launch) (Z : State) (a0 : Array Value) (hw : ∀ d ∈ tables_1, d.before a0 Z = true) (ws : List Jvm.Cond) (p1 : Int32) (w_high : Int32) (w_cache : Addr) (z_w_cache : Int32) (c_w_cache : Nat → Addr) (h0 : Heap) (n0 : Nat) (Z0 : n0 ≤ h0.size) (S_high : Sta Z h0 "java/lang/Integer$IntegerCache" "high" "I" (.int w_high)) (S_cache : Sta Z h0 "java/lang/Integer$IntegerCache" "cache" "[Ljava/lang/Integer;" (.ref w_cache)) (V_w_cache : RAr Z h0 w_cache (.object "java/lang/Integer") z_w_cache c_w_cache) (hhi : w_high = 127) (hz : z_w_cache = 256) :
    MetFree l (⟨"java/lang/Integer", "valueOf", "(I)Ljava/lang/Integer;"⟩ : MethodName) (head1 (Jvm.Cond.code (⟨"java/lang/Integer", "valueOf", "(I)Ljava/lang/Integer;"⟩ : MethodName) jdk_33_method_22_code 1 (some (.object "java/lang/Integer")) :: ws) ({ frames := 3, cells := 1, slots := 1, locals := 38 } : Room)) (fun a U => a = #[(.int p1)] ∧ Z.Warmed39 U.vm ∧ U.heap = h0) (fun _ _ _ _ _ => True) (fun _ U o U' => ∃ v L, o = .returned v ∧ Q1 Z p1 w_high w_cache z_w_cache c_w_cache h0 n0 v U'.heap L ∧ FrameEnd U o U' L ({ frames := 3, cells := 1, slots := 1, locals := 38 } : Room).cells ({ frames := 3, cells := 1, slots := 1, locals := 38 } : Room).slots) := by
  refine MetFree.of_bodySF (plainFor_of_name pn_1) hisR ?_
  intro p e s m args below meth c s₁ Bd hml0 hP hK
  obtain ⟨rfl, hZ, hh⟩ := hP
  have hx := Bd.exec
  have hby := Bd.bytes
  have hml : c.maxLocals = 1 := hml0
  have hown : s.vm.findClass "java/lang/Integer" = some m.cls := findClass_of_methodNamed Bd.named
  have hnm := (name_of_methodNamed Bd.named Bd.method).1
  have X0 : Stand p l e ({ frames := 3, cells := 1, slots := 1, locals := 38 } : Room) s m #[(.int p1)] below meth c s₁ [] 0 0 := Stand.of_body Bd
  have e0 : s₁.heap = h0 := by rw [← hh, Bd.state]; rfl
  have N0 := Fr.nil n0
  have pre0 : ∀ t, Steps p.tables e below (s₁.setTop (mkF m 0 #[.val (.int p1)] [])) t → Steps p.tables e below (s₁.setTop (entryFrame m #[(.int p1)] 1)) t := fun t k => castTop (ef_1 m p1) k
  have pre1 : ∀ t, Steps p.tables e below (s₁.setTop (mkF m 3 #[.val (.int p1)] [(.int (-128 : Int32)), (.int p1)])) t → Steps p.tables e below (s₁.setTop (entryFrame m #[(.int p1)] 1)) t := by
    intro t k
    refine pre0 t ?_
    show Steps p.tables e below (s₁.setTop (mkF m 0 #[.val (.int p1)] [])) _
    refine XS.iloadN X0.here hx rfl (hb hby d1_0) rfl ?_
    show Steps p.tables e below (s₁.setTop (mkF m 1 #[.val (.int p1)] [(.int p1)])) _
    refine XS.bipush X0.here hx rfl (hb hby d1_1) ?_
    exact k
  by_cases hc3 : p1 < (-128 : Int32)
  · obtain ⟨T2, h2, X2, e2, E2, A2, D2, -, st2⟩ := newO X0 hx hZ hown (hw _ (List.mem_of_getElem? (i := 50) rfl)) (hw _ (List.mem_of_getElem? (i := 51) rfl)) (hw _ (List.mem_of_getElem? (i := 2) rfl)) e0 (g := (mkF m 23 #[.val (.int p1)] [])) rfl (hb hby d1_23) (by decide) (by decide)
    obtain ⟨b2, g2⟩ : ∃ z, z = h0.size := ⟨_, rfl⟩
    rw [← g2] at A2 D2 st2
    have ne_w_cache_b2 : w_cache ≠ b2 := Nat.ne_of_lt (Nat.lt_of_lt_of_le V_w_cache.lt (Nat.le_of_eq g2.symm))
    have g_b2 : n0 ≤ b2 := Nat.le_trans Z0 (Nat.le_of_eq g2.symm)
    have sz_b2 : h0.size ≤ b2 := Nat.le_trans (Keep.refl h0 []).1 (Nat.le_of_eq g2.symm)
    have c3 : n0 ≤ h2.size := Nat.le_trans Z0 E2.1
    have c4 : Sta Z h2 "java/lang/Integer$IntegerCache" "high" "I" (.int w_high) := S_high.ext E2
    have c5 : Sta Z h2 "java/lang/Integer$IntegerCache" "cache" "[Ljava/lang/Integer;" (.ref w_cache) := S_cache.ext E2
    have c6 : RAr Z h2 w_cache (.object "java/lang/Integer") z_w_cache c_w_cache := V_w_cache.ext E2
    have c7 : Keep h0 h2 [] := (Keep.refl h0 []).ext E2
    have c8 : Fld Z h2 b2 "java/lang/Integer" "value" "I" (.int (0 : Int32)) := D2 (Or.inr (hw _ (List.mem_of_getElem? (i := 64) rfl))) (ty := .int) (by decide)
    obtain ⟨_, _, ⟨T9, L9, k9, n9⟩, -, X9, ⟨Lc9, hQ9, l9, y9, z9⟩, st9⟩ := X2.specialBack hx (y := (⟨"java/lang/Integer", "<init>", "(I)V"⟩ : MethodName)) rfl hown (mvT hZ (hw _ (List.mem_of_getElem? (i := 52) rfl))) (mvT hZ (hw _ (List.mem_of_getElem? (i := 53) rfl))) (mvT hZ (hw _ (List.mem_of_getElem? (i := 55) rfl))) (by decide) (backOf (W := 1) (rm9 l Z a0 hw [] b2 p1 (0 : Int32) h2 n0 c3 c8 A2 g_b2) hZ (hw _ (List.mem_of_getElem? (i := 55) rfl)) (hw _ (List.mem_of_getElem? (i := 2) rfl)) (by decide) (by decide)) (g := (mkF m 28 #[.val (.int p1)] [(.int p1), (.ref b2), (.ref b2)])) rfl (by rw [hml]; rfl) (Steps.refl _) (a := b2) (argsL := [(.int p1)]) (rest := [(.ref b2)]) (lenOf pd_1 rfl) rfl (by show 2 * 0 + _ ≤ _; exact Nat.le_of_eq rfl) (hb hby d1_28) (fun _ _ => ⟨rfl, e2, (by decide : 1 + 0 ≤ _), (by decide : 1 + 0 ≤ _)⟩)
    dsimp only [Pt.U, Pt.locs, Pt.cells, Pt.slots] at X9 l9 y9 z9 st9 hQ9
    subst l9 y9 z9
    obtain ⟨rfl, N9q, K9, o9_0⟩ := hQ9
    have N9 := Fr.app N0 N9q
    have c10 : n0 ≤ T9.heap.size := Nat.le_trans c3 K9.1
    have c11 : Sta Z T9.heap "java/lang/Integer$IntegerCache" "high" "I" (.int w_high) := own_staK1 c4 K9 A2
    have c12 : Sta Z T9.heap "java/lang/Integer$IntegerCache" "cache" "[Ljava/lang/Integer;" (.ref w_cache) := own_staK1 c5 K9 A2
    have c13 : RAr Z T9.heap w_cache (.object "java/lang/Integer") z_w_cache c_w_cache := c6.keep K9 (ninS ne_w_cache_b2 nin0)
    have c14 : Keep h0 T9.heap [] := c7.trans K9 (allS (Or.inr sz_b2) all0)
    have c15 : Exa Z T9.heap b2 "java/lang/Integer" := A2.keep K9
    have c16 : Fld Z T9.heap b2 "java/lang/Integer" "value" "I" (.int (f9_o0 p1 (0 : Int32))) := o9_0
    obtain ⟨fs, hr, hrun, hended, hW, hsame⟩ := X9.leave (v := some (.ref b2)) (fun h => by rw [Bd.returns] at h; cases h)
    refine ⟨_, _, pre1 _ ?_, hrun, hended, _, _, rfl, ?_, ⟨_, rfl⟩, hW, hsame.mono (by decide) (by decide)⟩
    · show Steps p.tables e below (s₁.setTop (mkF m 3 #[.val (.int p1)] [(.int (-128 : Int32)), (.int p1)])) _
      refine XS.icmpYes X0.here hx rfl (pc0 := 3) (pc' := 23) rfl (hb hby d1_3) rfl (tlt hc3).1 (by decide) (by decide) ?_
      show Steps p.tables e below (s₁.setTop (mkF m 23 #[.val (.int p1)] [])) _
      refine st2 _ ?_
      show Steps p.tables e below (T2.setTop (mkF m 26 #[.val (.int p1)] [(.ref b2)])) _
      refine XS.dup X2.here hx rfl (hb hby d1_26) rfl rfl ?_
      show Steps p.tables e below (T2.setTop (mkF m 27 #[.val (.int p1)] [(.ref b2), (.ref b2)])) _
      refine XS.iloadN X2.here hx rfl (hb hby d1_27) rfl ?_
      show Steps p.tables e below (T2.setTop (mkF m 28 #[.val (.int p1)] [(.int p1), (.ref b2), (.ref b2)])) _
      refine st9.trans ?_
      show Steps p.tables e below (T9.setTop (mkF m 31 #[.val (.int p1)] [(.ref b2)])) _
      jvm_step X9.here [X9.here.top, hx, (hb hby d1_31), X9.method', Bd.returns, Value.isRef, FieldType.isReference]
      first | (intro acts; rw [hr _ acts rfl rfl rfl]) | rw [hr _ _ rfl rfl rfl]
      exact Steps.refl _
    · show Q1 Z p1 w_high w_cache z_w_cache c_w_cache h0 n0 _ T9.heap _
      exact ⟨⟨_, rfl⟩, N9, c14⟩
  · obtain ⟨T17, X17, e17, st17⟩ := getS2 X0 hx hZ hown (host := "") (Or.inl (hw _ (List.mem_of_getElem? (i := 4) rfl))) Via.refl e0 S_high (g := (mkF m 7 #[.val (.int p1)] [(.int p1)])) rfl (hb hby d1_7)
    have pre2 : ∀ t, Steps p.tables e below (T17.setTop (mkF m 10 #[.val (.int p1)] [(.int w_high), (.int p1)])) t → Steps p.tables e below (s₁.setTop (entryFrame m #[(.int p1)] 1)) t := by
      intro t k
      refine pre1 t ?_
      show Steps p.tables e below (s₁.setTop (mkF m 3 #[.val (.int p1)] [(.int (-128 : Int32)), (.int p1)])) _
      refine XS.icmpNo X0.here hx rfl (hb hby d1_3) rfl (flt hc3).1 ?_
      show Steps p.tables e below (s₁.setTop (mkF m 6 #[.val (.int p1)] [])) _
      refine XS.iloadN X0.here hx rfl (hb hby d1_6) rfl ?_
      show Steps p.tables e below (s₁.setTop (mkF m 7 #[.val (.int p1)] [(.int p1)])) _
      refine st17 _ ?_
      exact k
    by_cases hc10 : w_high < p1
    · obtain ⟨T18, h18, X18, e18, E18, A18, D18, -, st18⟩ := newO X17 hx hZ hown (hw _ (List.mem_of_getElem? (i := 50) rfl)) (hw _ (List.mem_of_getElem? (i := 51) rfl)) (hw _ (List.mem_of_getElem? (i := 2) rfl)) e17 (g := (mkF m 23 #[.val (.int p1)] [])) rfl (hb hby d1_23) (by decide) (by decide)
      obtain ⟨b18, g18⟩ : ∃ z, z = h0.size := ⟨_, rfl⟩
      rw [← g18] at A18 D18 st18
      have ne_w_cache_b18 : w_cache ≠ b18 := Nat.ne_of_lt (Nat.lt_of_lt_of_le V_w_cache.lt (Nat.le_of_eq g18.symm))
      have g_b18 : n0 ≤ b18 := Nat.le_trans Z0 (Nat.le_of_eq g18.symm)
      have sz_b18 : h0.size ≤ b18 := Nat.le_trans (Keep.refl h0 []).1 (Nat.le_of_eq g18.symm)
      have c19 : n0 ≤ h18.size := Nat.le_trans Z0 E18.1
      have c20 : Sta Z h18 "java/lang/Integer$IntegerCache" "high" "I" (.int w_high) := S_high.ext E18
      have c21 : Sta Z h18 "java/lang/Integer$IntegerCache" "cache" "[Ljava/lang/Integer;" (.ref w_cache) := S_cache.ext E18
      have c22 : RAr Z h18 w_cache (.object "java/lang/Integer") z_w_cache c_w_cache := V_w_cache.ext E18
      have c23 : Keep h0 h18 [] := (Keep.refl h0 []).ext E18
      have c24 : Fld Z h18 b18 "java/lang/Integer" "value" "I" (.int (0 : Int32)) := D18 (Or.inr (hw _ (List.mem_of_getElem? (i := 64) rfl))) (ty := .int) (by decide)
      obtain ⟨_, _, ⟨T25, L25, k25, n25⟩, -, X25, ⟨Lc25, hQ25, l25, y25, z25⟩, st25⟩ := X18.specialBack hx (y := (⟨"java/lang/Integer", "<init>", "(I)V"⟩ : MethodName)) rfl hown (mvT hZ (hw _ (List.mem_of_getElem? (i := 52) rfl))) (mvT hZ (hw _ (List.mem_of_getElem? (i := 53) rfl))) (mvT hZ (hw _ (List.mem_of_getElem? (i := 55) rfl))) (by decide) (backOf (W := 1) (rm9 l Z a0 hw [] b18 p1 (0 : Int32) h18 n0 c19 c24 A18 g_b18) hZ (hw _ (List.mem_of_getElem? (i := 55) rfl)) (hw _ (List.mem_of_getElem? (i := 2) rfl)) (by decide) (by decide)) (g := (mkF m 28 #[.val (.int p1)] [(.int p1), (.ref b18), (.ref b18)])) rfl (by rw [hml]; rfl) (Steps.refl _) (a := b18) (argsL := [(.int p1)]) (rest := [(.ref b18)]) (lenOf pd_1 rfl) rfl (by show 2 * 0 + _ ≤ _; exact Nat.le_of_eq rfl) (hb hby d1_28) (fun _ _ => ⟨rfl, e18, (by decide : 1 + 0 ≤ _), (by decide : 1 + 0 ≤ _)⟩)
      dsimp only [Pt.U, Pt.locs, Pt.cells, Pt.slots] at X25 l25 y25 z25 st25 hQ25
      subst l25 y25 z25
      obtain ⟨rfl, N25q, K25, o25_0⟩ := hQ25
      have N25 := Fr.app N0 N25q
      have c26 : n0 ≤ T25.heap.size := Nat.le_trans c19 K25.1
      have c27 : Sta Z T25.heap "java/lang/Integer$IntegerCache" "high" "I" (.int w_high) := own_staK1 c20 K25 A18
      have c28 : Sta Z T25.heap "java/lang/Integer$IntegerCache" "cache" "[Ljava/lang/Integer;" (.ref w_cache) := own_staK1 c21 K25 A18
      have c29 : RAr Z T25.heap w_cache (.object "java/lang/Integer") z_w_cache c_w_cache := c22.keep K25 (ninS ne_w_cache_b18 nin0)
      have c30 : Keep h0 T25.heap [] := c23.trans K25 (allS (Or.inr sz_b18) all0)
      have c31 : Exa Z T25.heap b18 "java/lang/Integer" := A18.keep K25
      have c32 : Fld Z T25.heap b18 "java/lang/Integer" "value" "I" (.int (f9_o0 p1 (0 : Int32))) := o25_0
      obtain ⟨fs, hr, hrun, hended, hW, hsame⟩ := X25.leave (v := some (.ref b18)) (fun h => by rw [Bd.returns] at h; cases h)
      refine ⟨_, _, pre2 _ ?_, hrun, hended, _, _, rfl, ?_, ⟨_, rfl⟩, hW, hsame.mono (by decide) (by decide)⟩
      · show Steps p.tables e below (T17.setTop (mkF m 10 #[.val (.int p1)] [(.int w_high), (.int p1)])) _
        refine XS.icmpYes X17.here hx rfl (pc0 := 10) (pc' := 23) rfl (hb hby d1_10) rfl (tlt hc10).2.2.1 (by decide) (by decide) ?_
        show Steps p.tables e below (T17.setTop (mkF m 23 #[.val (.int p1)] [])) _
        refine st18 _ ?_
        show Steps p.tables e below (T18.setTop (mkF m 26 #[.val (.int p1)] [(.ref b18)])) _
        refine XS.dup X18.here hx rfl (hb hby d1_26) rfl rfl ?_
        show Steps p.tables e below (T18.setTop (mkF m 27 #[.val (.int p1)] [(.ref b18), (.ref b18)])) _
        refine XS.iloadN X18.here hx rfl (hb hby d1_27) rfl ?_
        show Steps p.tables e below (T18.setTop (mkF m 28 #[.val (.int p1)] [(.int p1), (.ref b18), (.ref b18)])) _
        refine st25.trans ?_
        show Steps p.tables e below (T25.setTop (mkF m 31 #[.val (.int p1)] [(.ref b18)])) _
        jvm_step X25.here [X25.here.top, hx, (hb hby d1_31), X25.method', Bd.returns, Value.isRef, FieldType.isReference]
        first | (intro acts; rw [hr _ acts rfl rfl rfl]) | rw [hr _ _ rfl rfl rfl]
        exact Steps.refl _
      · show Q1 Z p1 w_high w_cache z_w_cache c_w_cache h0 n0 _ T25.heap _
        exact ⟨⟨_, rfl⟩, N25, c30⟩
    · obtain ⟨T33, X33, e33, st33⟩ := getS2 X17 hx hZ hown (host := "") (Or.inl (hw _ (List.mem_of_getElem? (i := 6) rfl))) Via.refl e17 S_cache (g := (mkF m 13 #[.val (.int p1)] [])) rfl (hb hby d1_13)
      obtain ⟨fs, hr, hrun, hended, hW, hsame⟩ := X33.leave (v := some (.ref (c_w_cache ((p1 + (128 : Int32))).toNatClampNeg))) (fun h => by rw [Bd.returns] at h; cases h)
      refine ⟨_, _, pre2 _ ?_, hrun, hended, _, _, rfl, ?_, ⟨_, rfl⟩, hW, hsame.mono (by decide) (by decide)⟩
      · show Steps p.tables e below (T17.setTop (mkF m 10 #[.val (.int p1)] [(.int w_high), (.int p1)])) _
        refine XS.icmpNo X17.here hx rfl (hb hby d1_10) rfl (flt hc10).2.2.1 ?_
        show Steps p.tables e below (T17.setTop (mkF m 13 #[.val (.int p1)] [])) _
        refine st33 _ ?_
        show Steps p.tables e below (T33.setTop (mkF m 16 #[.val (.int p1)] [(.ref w_cache)])) _
        refine XS.iloadN X33.here hx rfl (hb hby d1_16) rfl ?_
        show Steps p.tables e below (T33.setTop (mkF m 17 #[.val (.int p1)] [(.int p1), (.ref w_cache)])) _
        refine XS.sipush X33.here hx rfl (hb hby d1_17) ?_
        show Steps p.tables e below (T33.setTop (mkF m 20 #[.val (.int p1)] [(.int (128 : Int32)), (.int p1), (.ref w_cache)])) _
        refine XS.iadd X33.here hx rfl (hb hby d1_20) rfl ?_
        show Steps p.tables e below (T33.setTop (mkF m 21 #[.val (.int p1)] [(.int (p1 + (128 : Int32))), (.ref w_cache)])) _
        refine ldR X33 hx hZ e33 V_w_cache rfl (j := (p1 + (128 : Int32))) (own_ci hz hhi hc3 hc10) (g := (mkF m 21 #[.val (.int p1)] [(.int (p1 + (128 : Int32))), (.ref w_cache)])) rfl rfl (hb hby d1_21) ?_
        show Steps p.tables e below (T33.setTop (mkF m 22 #[.val (.int p1)] [(.ref (c_w_cache ((p1 + (128 : Int32))).toNatClampNeg))])) _
        jvm_step X33.here [X33.here.top, hx, (hb hby d1_22), X33.method', Bd.returns, Value.isRef, FieldType.isReference]
        first | (intro acts; rw [hr _ acts rfl rfl rfl]) | rw [hr _ _ rfl rfl rfl]
        exact Steps.refl _
      · show Q1 Z p1 w_high w_cache z_w_cache c_w_cache h0 n0 _ T33.heap _
        rw [e33]
        exact ⟨⟨_, rfl⟩, N0, (Keep.refl h0 [])⟩
theorem pn_2 : plainName "com/example/millrace/millrace/runtime/aggregate/Count" = true := by first | (simp [plainName, overriddenIn]; done) | decide +kernel
theorem d2_0 : decode prog_82_method_1_code 0 = .ok (.aload_n 0, 1) := by decide +kernel
theorem d2_1 : decode prog_82_method_1_code 1 = .ok (.invokespecial 1, 3) := by decide +kernel
theorem d2_4 : decode prog_82_method_1_code 4 = .ok (.return_, 1) := by decide +kernel
theorem ef_2 (m : MethodId) (x0 : Addr) : entryFrame m #[(.ref x0)] 1 = mkF m 0 #[.val (.ref x0)] [] := by first | (simp [entryFrame, mkF, argsToLocals, Value.category]; done) | rfl
def Q2 (Z : State) (a1 : Addr) (h0 : Heap) (n0 : Nat) (v : Option Value) (h : Heap) (L : List Loc) : Prop := v = none ∧ Fr n0 L ∧ h = h0
set_option maxRecDepth 65536 in
set_option maxHeartbeats 40000000 in
theorem rm2 (l : Launch) (Z : State) (a0 : Array Value) (hw : ∀ d ∈ tables_1, d.before a0 Z = true) (ws : List Jvm.Cond) (a1 : Addr) (h0 : Heap) (n0 : Nat) (Z0 : n0 ≤ h0.size) :
    MetFree l (⟨"com/example/millrace/millrace/runtime/aggregate/Count", "<init>", "()V"⟩ : MethodName) (head1 (Jvm.Cond.code (⟨"com/example/millrace/millrace/runtime/aggregate/Count", "<init>", "()V"⟩ : MethodName) prog_82_method_1_code 1 none :: ws) ({ frames := 1, cells := 0, slots := 0, locals := 12 } : Room)) (fun a U => a = #[(.ref a1)] ∧ Z.Warmed39 U.vm ∧ U.heap = h0) (fun _ _ _ _ _ => True) (fun _ U o U' => ∃ v L, o = .returned v ∧ Q2 Z a1 h0 n0 v U'.heap L ∧ FrameEnd U o U' L ({ frames := 1, cells := 0, slots := 0, locals := 12 } : Room).cells ({ frames := 1, cells := 0, slots := 0, locals := 12 } : Room).slots) := by
  refine MetFree.of_bodySF (plainFor_of_name pn_2) hisR ?_
  intro p e s m args below meth c s₁ Bd hml0 hP hK
  obtain ⟨rfl, hZ, hh⟩ := hP
  have hx := Bd.exec
  have hby := Bd.bytes
  have hml : c.maxLocals = 1 := hml0
  have hown : s.vm.findClass "com/example/millrace/millrace/runtime/aggregate/Count" = some m.cls := findClass_of_methodNamed Bd.named
  have hnm := (name_of_methodNamed Bd.named Bd.method).1
  have X0 : Stand p l e ({ frames := 1, cells := 0, slots := 0, locals := 12 } : Room) s m #[(.ref a1)] below meth c s₁ [] 0 0 := Stand.of_body Bd
  have e0 : s₁.heap = h0 := by rw [← hh, Bd.state]; rfl
  have N0 := Fr.nil n0
  have pre0 : ∀ t, Steps p.tables e below (s₁.setTop (mkF m 0 #[.val (.ref a1)] [])) t → Steps p.tables e below (s₁.setTop (entryFrame m #[(.ref a1)] 1)) t := fun t k => castTop (ef_2 m a1) k
  obtain ⟨T2, X2, e2, st2⟩ := initO X0 hx hZ hown (hw _ (List.mem_of_getElem? (i := 13) rfl)) (hw _ (List.mem_of_getElem? (i := 14) rfl)) (hw _ (List.mem_of_getElem? (i := 15) rfl)) e0 (g := (mkF m 1 #[.val (.ref a1)] [(.ref a1)])) rfl (by rw [hml]; rfl) rfl (hb hby d2_1) (by decide) (W := 0) (by show 2 * 0 + _ ≤ _; exact Nat.le_of_eq rfl) (by decide)
  obtain ⟨fs, hr, hrun, hended, hW, hsame⟩ := X2.leave (v := none) (fun _ => rfl)
  refine ⟨_, _, pre0 _ ?_, hrun, hended, _, _, rfl, ?_, ⟨_, rfl⟩, hW, hsame.mono (by decide) (by decide)⟩
  · show Steps p.tables e below (s₁.setTop (mkF m 0 #[.val (.ref a1)] [])) _
    refine XS.aloadN X0.here hx rfl (hb hby d2_0) rfl rfl ?_
    show Steps p.tables e below (s₁.setTop (mkF m 1 #[.val (.ref a1)] [(.ref a1)])) _
    refine st2 _ ?_
    show Steps p.tables e below (T2.setTop (mkF m 4 #[.val (.ref a1)] [])) _
    exact X2.returnOut hx Bd.returns (hb hby d2_4) hr
  · show Q2 Z a1 h0 n0 _ T2.heap _
    rw [e2]
    exact ⟨rfl, N0, rfl⟩
theorem d5_0 : decode prog_82_method_2_code 0 = .ok (.aload_n 1, 1) := by decide +kernel
theorem d5_1 : decode prog_82_method_2_code 1 = .ok (.ifnull 13, 3) := by decide +kernel
theorem d5_4 : decode prog_82_method_2_code 4 = .ok (.aload_n 0, 1) := by decide +kernel
theorem d5_5 : decode prog_82_method_2_code 5 = .ok (.dup, 1) := by decide +kernel
theorem d5_6 : decode prog_82_method_2_code 6 = .ok (.getfield 7, 3) := by decide +kernel
theorem d5_9 : decode prog_82_method_2_code 9 = .ok (.lconst 1, 1) := by decide +kernel
theorem d5_10 : decode prog_82_method_2_code 10 = .ok (.ladd, 1) := by decide +kernel
theorem d5_11 : decode prog_82_method_2_code 11 = .ok (.putfield 7, 3) := by decide +kernel
theorem d5_14 : decode prog_82_method_2_code 14 = .ok (.return_, 1) := by decide +kernel
theorem ef_5 (m : MethodId) (x0 : Addr) (x1 : Addr) : entryFrame m #[(.ref x0), (.ref x1)] 2 = mkF m 0 #[.val (.ref x0), .val (.ref x1)] [] := by first | (simp [entryFrame, mkF, argsToLocals, Value.category]; done) | rfl
def f5_o0 (w_count_a1 : Int64) : Int64 := (w_count_a1 + (1 : Int64))
def Q5 (Z : State) (a1 : Addr) (a2 : Addr) (w_count_a1 : Int64) (h0 : Heap) (n0 : Nat) (v : Option Value) (h : Heap) (L : List Loc) : Prop := v = none ∧ Fr n0 L ∧ Keep h0 h [a1] ∧ Fld Z h a1 "com/example/millrace/millrace/runtime/aggregate/Count" "count" "J" (.long (f5_o0 w_count_a1))
set_option maxRecDepth 65536 in
set_option maxHeartbeats 40000000 in
theorem rm5 (l : Launch) (Z : State) (a0 : Array Value) (hw : ∀ d ∈ tables_1, d.before a0 Z = true) (ws : List Jvm.Cond) (a1 : Addr) (a2 : Addr) (w_count_a1 : Int64) (h0 : Heap) (n0 : Nat) (Z0 : n0 ≤ h0.size) (F_count_a1 : Fld Z h0 a1 "com/example/millrace/millrace/runtime/aggregate/Count" "count" "J" (.long w_count_a1)) (E_a1 : Exa Z h0 a1 "com/example/millrace/millrace/runtime/aggregate/Count") (g_a1 : n0 ≤ a1) :
    MetFree l (⟨"com/example/millrace/millrace/runtime/aggregate/Count", "add", "(Ljava/lang/Object;)V"⟩ : MethodName) (head1 (Jvm.Cond.code (⟨"com/example/millrace/millrace/runtime/aggregate/Count", "add", "(Ljava/lang/Object;)V"⟩ : MethodName) prog_82_method_2_code 2 none :: ws) ({ frames := 0, cells := 0, slots := 0, locals := 0 } : Room)) (fun a U => a = #[(.ref a1), (.ref a2)] ∧ Z.Warmed39 U.vm ∧ U.heap = h0) (fun _ _ _ _ _ => True) (fun _ U o U' => ∃ v L, o = .returned v ∧ Q5 Z a1 a2 w_count_a1 h0 n0 v U'.heap L ∧ FrameEnd U o U' L ({ frames := 0, cells := 0, slots := 0, locals := 0 } : Room).cells ({ frames := 0, cells := 0, slots := 0, locals := 0 } : Room).slots) := by
  refine MetFree.of_bodySF (plainFor_of_name pn_2) hisR ?_
  intro p e s m args below meth c s₁ Bd hml0 hP hK
  obtain ⟨rfl, hZ, hh⟩ := hP
  have hx := Bd.exec
  have hby := Bd.bytes
  have hml : c.maxLocals = 2 := hml0
  have hown : s.vm.findClass "com/example/millrace/millrace/runtime/aggregate/Count" = some m.cls := findClass_of_methodNamed Bd.named
  have hnm := (name_of_methodNamed Bd.named Bd.method).1
  have X0 : Stand p l e ({ frames := 0, cells := 0, slots := 0, locals := 0 } : Room) s m #[(.ref a1), (.ref a2)] below meth c s₁ [] 0 0 := Stand.of_body Bd
  have e0 : s₁.heap = h0 := by rw [← hh, Bd.state]; rfl
  have N0 := Fr.nil n0
  have pre0 : ∀ t, Steps p.tables e below (s₁.setTop (mkF m 0 #[.val (.ref a1), .val (.ref a2)] [])) t → Steps p.tables e below (s₁.setTop (entryFrame m #[(.ref a1), (.ref a2)] 2)) t := fun t k => castTop (ef_5 m a1 a2) k
  obtain ⟨T3, X3, e3, st3⟩ := getF X0 hx hZ hown (host := "") (Or.inl (hw _ (List.mem_of_getElem? (i := 25) rfl))) Via.refl e0 F_count_a1 (g := (mkF m 6 #[.val (.ref a1), .val (.ref a2)] [(.ref a1), (.ref a1)])) rfl rfl (hb hby d5_6)
  obtain ⟨T4, h4, X4, e4, W4, st4⟩ := putF X3 hx hZ hown (host := "") (Or.inl (hw _ (List.mem_of_getElem? (i := 25) rfl))) Via.refl e3 F_count_a1 E_a1 (Or.inl (hw _ (List.mem_of_getElem? (i := 26) rfl))) (hw _ (List.mem_of_getElem? (i := 8) rfl)) (ty := .long) (by decide) rfl rfl (g := (mkF m 11 #[.val (.ref a1), .val (.ref a2)] [(.long (w_count_a1 + (1 : Int64))), (.ref a1)])) rfl rfl (hb hby d5_11)
  have N4 := Fr.snoc X4 N0 g_a1
  have c5 : n0 ≤ h4.size := Nat.le_trans Z0 (Keep.of_wr W4).1
  have c6 : Fld Z h4 a1 "com/example/millrace/millrace/runtime/aggregate/Count" "count" "J" (.long (w_count_a1 + (1 : Int64))) := F_count_a1.same W4
  have c7 : Exa Z h4 a1 "com/example/millrace/millrace/runtime/aggregate/Count" := E_a1.wr W4
  have c8 : Keep h0 h4 [a1] := (Keep.refl h0 [a1]).wr W4 (Or.inl (List.mem_of_getElem? (i := 0) rfl))
  have eq1 : (f5_o0 w_count_a1) = (w_count_a1 + (1 : Int64)) := rfl
  obtain ⟨fs, hr, hrun, hended, hW, hsame⟩ := X4.leave (v := none) (fun _ => rfl)
  refine ⟨_, _, pre0 _ ?_, hrun, hended, _, _, rfl, ?_, ⟨_, rfl⟩, hW, hsame.mono (by decide) (by decide)⟩
  · show Steps p.tables e below (s₁.setTop (mkF m 0 #[.val (.ref a1), .val (.ref a2)] [])) _
    refine XS.aloadN X0.here hx rfl (hb hby d5_0) rfl rfl ?_
    show Steps p.tables e below (s₁.setTop (mkF m 1 #[.val (.ref a1), .val (.ref a2)] [(.ref a2)])) _
    refine XS.ifnullNo X0.here hx rfl (hb hby d5_1) rfl ?_
    show Steps p.tables e below (s₁.setTop (mkF m 4 #[.val (.ref a1), .val (.ref a2)] [])) _
    refine XS.aloadN X0.here hx rfl (hb hby d5_4) rfl rfl ?_
    show Steps p.tables e below (s₁.setTop (mkF m 5 #[.val (.ref a1), .val (.ref a2)] [(.ref a1)])) _
    refine XS.dup X0.here hx rfl (hb hby d5_5) rfl rfl ?_
    show Steps p.tables e below (s₁.setTop (mkF m 6 #[.val (.ref a1), .val (.ref a2)] [(.ref a1), (.ref a1)])) _
    refine st3 _ ?_
    show Steps p.tables e below (T3.setTop (mkF m 9 #[.val (.ref a1), .val (.ref a2)] [(.long w_count_a1), (.ref a1)])) _
    refine XS.lconst X3.here hx rfl (hb hby d5_9) ?_
    show Steps p.tables e below (T3.setTop (mkF m 10 #[.val (.ref a1), .val (.ref a2)] [(.long (1 : Int64)), (.long w_count_a1), (.ref a1)])) _
    refine XS.ladd X3.here hx rfl (hb hby d5_10) rfl ?_
    show Steps p.tables e below (T3.setTop (mkF m 11 #[.val (.ref a1), .val (.ref a2)] [(.long (w_count_a1 + (1 : Int64))), (.ref a1)])) _
    refine st4 _ ?_
    show Steps p.tables e below (T4.setTop (mkF m 14 #[.val (.ref a1), .val (.ref a2)] [])) _
    exact X4.returnOut hx Bd.returns (hb hby d5_14) hr
  · show Q5 Z a1 a2 w_count_a1 h0 n0 _ T4.heap _
    rw [e4]
    exact ⟨rfl, N4, c8, (by rw [eq1]; exact c6)⟩
theorem ef_5n (m : MethodId) (x0 : Addr) : entryFrame m #[(.ref x0), .null] 2 = mkF m 0 #[.val (.ref x0), .val .null] [] := by first | (simp [entryFrame, mkF, argsToLocals, Value.category]; done) | rfl
def Q5n (Z : State) (a1 : Addr) (h0 : Heap) (n0 : Nat) (v : Option Value) (h : Heap) (L : List Loc) : Prop := v = none ∧ Fr n0 L ∧ h = h0
set_option maxRecDepth 65536 in
set_option maxHeartbeats 40000000 in
theorem rm5n (l : Launch) (Z : State) (a0 : Array Value) (hw : ∀ d ∈ tables_1, d.before a0 Z = true) (ws : List Jvm.Cond) (a1 : Addr) (h0 : Heap) (n0 : Nat) (Z0 : n0 ≤ h0.size) :
    MetFree l (⟨"com/example/millrace/millrace/runtime/aggregate/Count", "add", "(Ljava/lang/Object;)V"⟩ : MethodName) (head1 (Jvm.Cond.code (⟨"com/example/millrace/millrace/runtime/aggregate/Count", "add", "(Ljava/lang/Object;)V"⟩ : MethodName) prog_82_method_2_code 2 none :: ws) ({ frames := 0, cells := 0, slots := 0, locals := 0 } : Room)) (fun a U => a = #[(.ref a1), .null] ∧ Z.Warmed39 U.vm ∧ U.heap = h0) (fun _ _ _ _ _ => True) (fun _ U o U' => ∃ v L, o = .returned v ∧ Q5n Z a1 h0 n0 v U'.heap L ∧ FrameEnd U o U' L ({ frames := 0, cells := 0, slots := 0, locals := 0 } : Room).cells ({ frames := 0, cells := 0, slots := 0, locals := 0 } : Room).slots) := by
  refine MetFree.of_bodySF (plainFor_of_name pn_2) hisR ?_
  intro p e s m args below meth c s₁ Bd hml0 hP hK
  obtain ⟨rfl, hZ, hh⟩ := hP
  have hx := Bd.exec
  have hby := Bd.bytes
  have hml : c.maxLocals = 2 := hml0
  have hown : s.vm.findClass "com/example/millrace/millrace/runtime/aggregate/Count" = some m.cls := findClass_of_methodNamed Bd.named
  have hnm := (name_of_methodNamed Bd.named Bd.method).1
  have X0 : Stand p l e ({ frames := 0, cells := 0, slots := 0, locals := 0 } : Room) s m #[(.ref a1), .null] below meth c s₁ [] 0 0 := Stand.of_body Bd
  have e0 : s₁.heap = h0 := by rw [← hh, Bd.state]; rfl
  have N0 := Fr.nil n0
  have pre0 : ∀ t, Steps p.tables e below (s₁.setTop (mkF m 0 #[.val (.ref a1), .val .null] [])) t → Steps p.tables e below (s₁.setTop (entryFrame m #[(.ref a1), .null] 2)) t := fun t k => castTop (ef_5n m a1) k
  obtain ⟨fs, hr, hrun, hended, hW, hsame⟩ := X0.leave (v := none) (fun _ => rfl)
  refine ⟨_, _, pre0 _ ?_, hrun, hended, _, _, rfl, ?_, ⟨_, rfl⟩, hW, hsame.mono (by decide) (by decide)⟩
  · show Steps p.tables e below (s₁.setTop (mkF m 0 #[.val (.ref a1), .val .null] [])) _
    refine XS.aloadN X0.here hx rfl (hb hby d5_0) rfl rfl ?_
    show Steps p.tables e below (s₁.setTop (mkF m 1 #[.val (.ref a1), .val .null] [.null])) _
    refine XS.ifnullYes X0.here hx rfl (pc0 := 1) (pc' := 14) rfl (hb hby d5_1) rfl (by decide) (by decide) ?_
    show Steps p.tables e below (s₁.setTop (mkF m 14 #[.val (.ref a1), .val .null] [])) _
    exact X0.returnOut hx Bd.returns (hb hby d5_14) hr
  · show Q5n Z a1 h0 n0 _ s₁.heap _
    rw [e0]
    exact ⟨rfl, N0, rfl⟩
theorem d6_0 : decode prog_82_method_3_code 0 = .ok (.aload_n 1, 1) := by decide +kernel
theorem d6_1 : decode prog_82_method_3_code 1 = .ok (.ifnull 13, 3) := by decide +kernel
theorem d6_4 : decode prog_82_method_3_code 4 = .ok (.aload_n 0, 1) := by decide +kernel
theorem d6_5 : decode prog_82_method_3_code 5 = .ok (.dup, 1) := by decide +kernel
theorem d6_6 : decode prog_82_method_3_code 6 = .ok (.getfield 7, 3) := by decide +kernel
theorem d6_9 : decode prog_82_method_3_code 9 = .ok (.lconst 1, 1) := by decide +kernel
theorem d6_10 : decode prog_82_method_3_code 10 = .ok (.lsub, 1) := by decide +kernel
theorem d6_11 : decode prog_82_method_3_code 11 = .ok (.putfield 7, 3) := by decide +kernel
theorem d6_14 : decode prog_82_method_3_code 14 = .ok (.return_, 1) := by decide +kernel
theorem ef_6 (m : MethodId) (x0 : Addr) (x1 : Addr) : entryFrame m #[(.ref x0), (.ref x1)] 2 = mkF m 0 #[.val (.ref x0), .val (.ref x1)] [] := by first | (simp [entryFrame, mkF, argsToLocals, Value.category]; done) | rfl
def f6_o0 (w_count_a1 : Int64) : Int64 := (w_count_a1 - (1 : Int64))
def Q6 (Z : State) (a1 : Addr) (a2 : Addr) (w_count_a1 : Int64) (h0 : Heap) (n0 : Nat) (v : Option Value) (h : Heap) (L : List Loc) : Prop := v = none ∧ Fr n0 L ∧ Keep h0 h [a1] ∧ Fld Z h a1 "com/example/millrace/millrace/runtime/aggregate/Count" "count" "J" (.long (f6_o0 w_count_a1))
set_option maxRecDepth 65536 in
set_option maxHeartbeats 40000000 in
theorem rm6 (l : Launch) (Z : State) (a0 : Array Value) (hw : ∀ d ∈ tables_1, d.before a0 Z = true) (ws : List Jvm.Cond) (a1 : Addr) (a2 : Addr) (w_count_a1 : Int64) (h0 : Heap) (n0 : Nat) (Z0 : n0 ≤ h0.size) (F_count_a1 : Fld Z h0 a1 "com/example/millrace/millrace/runtime/aggregate/Count" "count" "J" (.long w_count_a1)) (E_a1 : Exa Z h0 a1 "com/example/millrace/millrace/runtime/aggregate/Count") (g_a1 : n0 ≤ a1) :
    MetFree l (⟨"com/example/millrace/millrace/runtime/aggregate/Count", "remove", "(Ljava/lang/Object;)V"⟩ : MethodName) (head1 (Jvm.Cond.code (⟨"com/example/millrace/millrace/runtime/aggregate/Count", "remove", "(Ljava/lang/Object;)V"⟩ : MethodName) prog_82_method_3_code 2 none :: ws) ({ frames := 0, cells := 0, slots := 0, locals := 0 } : Room)) (fun a U => a = #[(.ref a1), (.ref a2)] ∧ Z.Warmed39 U.vm ∧ U.heap = h0) (fun _ _ _ _ _ => True) (fun _ U o U' => ∃ v L, o = .returned v ∧ Q6 Z a1 a2 w_count_a1 h0 n0 v U'.heap L ∧ FrameEnd U o U' L ({ frames := 0, cells := 0, slots := 0, locals := 0 } : Room).cells ({ frames := 0, cells := 0, slots := 0, locals := 0 } : Room).slots) := by
  refine MetFree.of_bodySF (plainFor_of_name pn_2) hisR ?_
  intro p e s m args below meth c s₁ Bd hml0 hP hK
  obtain ⟨rfl, hZ, hh⟩ := hP
  have hx := Bd.exec
  have hby := Bd.bytes
  have hml : c.maxLocals = 2 := hml0
  have hown : s.vm.findClass "com/example/millrace/millrace/runtime/aggregate/Count" = some m.cls := findClass_of_methodNamed Bd.named
  have hnm := (name_of_methodNamed Bd.named Bd.method).1
  have X0 : Stand p l e ({ frames := 0, cells := 0, slots := 0, locals := 0 } : Room) s m #[(.ref a1), (.ref a2)] below meth c s₁ [] 0 0 := Stand.of_body Bd
  have e0 : s₁.heap = h0 := by rw [← hh, Bd.state]; rfl
  have N0 := Fr.nil n0
  have pre0 : ∀ t, Steps p.tables e below (s₁.setTop (mkF m 0 #[.val (.ref a1), .val (.ref a2)] [])) t → Steps p.tables e below (s₁.setTop (entryFrame m #[(.ref a1), (.ref a2)] 2)) t := fun t k => castTop (ef_6 m a1 a2) k
  obtain ⟨T3, X3, e3, st3⟩ := getF X0 hx hZ hown (host := "") (Or.inl (hw _ (List.mem_of_getElem? (i := 25) rfl))) Via.refl e0 F_count_a1 (g := (mkF m 6 #[.val (.ref a1), .val (.ref a2)] [(.ref a1), (.ref a1)])) rfl rfl (hb hby d6_6)
  obtain ⟨T4, h4, X4, e4, W4, st4⟩ := putF X3 hx hZ hown (host := "") (Or.inl (hw _ (List.mem_of_getElem? (i := 25) rfl))) Via.refl e3 F_count_a1 E_a1 (Or.inl (hw _ (List.mem_of_getElem? (i := 26) rfl))) (hw _ (List.mem_of_getElem? (i := 8) rfl)) (ty := .long) (by decide) rfl rfl (g := (mkF m 11 #[.val (.ref a1), .val (.ref a2)] [(.long (w_count_a1 - (1 : Int64))), (.ref a1)])) rfl rfl (hb hby d6_11)
  have N4 := Fr.snoc X4 N0 g_a1
  have c5 : n0 ≤ h4.size := Nat.le_trans Z0 (Keep.of_wr W4).1
  have c6 : Fld Z h4 a1 "com/example/millrace/millrace/runtime/aggregate/Count" "count" "J" (.long (w_count_a1 - (1 : Int64))) := F_count_a1.same W4
  have c7 : Exa Z h4 a1 "com/example/millrace/millrace/runtime/aggregate/Count" := E_a1.wr W4
  have c8 : Keep h0 h4 [a1] := (Keep.refl h0 [a1]).wr W4 (Or.inl (List.mem_of_getElem? (i := 0) rfl))
  have eq1 : (f6_o0 w_count_a1) = (w_count_a1 - (1 : Int64)) := rfl
  obtain ⟨fs, hr, hrun, hended, hW, hsame⟩ := X4.leave (v := none) (fun _ => rfl)
  refine ⟨_, _, pre0 _ ?_, hrun, hended, _, _, rfl, ?_, ⟨_, rfl⟩, hW, hsame.mono (by decide) (by decide)⟩
  · show Steps p.tables e below (s₁.setTop (mkF m 0 #[.val (.ref a1), .val (.ref a2)] [])) _
    refine XS.aloadN X0.here hx rfl (hb hby d6_0) rfl rfl ?_
    show Steps p.tables e below (s₁.setTop (mkF m 1 #[.val (.ref a1), .val (.ref a2)] [(.ref a2)])) _
    refine XS.ifnullNo X0.here hx rfl (hb hby d6_1) rfl ?_
    show Steps p.tables e below (s₁.setTop (mkF m 4 #[.val (.ref a1), .val (.ref a2)] [])) _
    refine XS.aloadN X0.here hx rfl (hb hby d6_4) rfl rfl ?_
    show Steps p.tables e below (s₁.setTop (mkF m 5 #[.val (.ref a1), .val (.ref a2)] [(.ref a1)])) _
    refine XS.dup X0.here hx rfl (hb hby d6_5) rfl rfl ?_
    show Steps p.tables e below (s₁.setTop (mkF m 6 #[.val (.ref a1), .val (.ref a2)] [(.ref a1), (.ref a1)])) _
    refine st3 _ ?_
    show Steps p.tables e below (T3.setTop (mkF m 9 #[.val (.ref a1), .val (.ref a2)] [(.long w_count_a1), (.ref a1)])) _
    refine XS.lconst X3.here hx rfl (hb hby d6_9) ?_
    show Steps p.tables e below (T3.setTop (mkF m 10 #[.val (.ref a1), .val (.ref a2)] [(.long (1 : Int64)), (.long w_count_a1), (.ref a1)])) _
    refine XS.lsub X3.here hx rfl (hb hby d6_10) rfl ?_
    show Steps p.tables e below (T3.setTop (mkF m 11 #[.val (.ref a1), .val (.ref a2)] [(.long (w_count_a1 - (1 : Int64))), (.ref a1)])) _
    refine st4 _ ?_
    show Steps p.tables e below (T4.setTop (mkF m 14 #[.val (.ref a1), .val (.ref a2)] [])) _
    exact X4.returnOut hx Bd.returns (hb hby d6_14) hr
  · show Q6 Z a1 a2 w_count_a1 h0 n0 _ T4.heap _
    rw [e4]
    exact ⟨rfl, N4, c8, (by rw [eq1]; exact c6)⟩
theorem ef_6n (m : MethodId) (x0 : Addr) : entryFrame m #[(.ref x0), .null] 2 = mkF m 0 #[.val (.ref x0), .val .null] [] := by first | (simp [entryFrame, mkF, argsToLocals, Value.category]; done) | rfl
def Q6n (Z : State) (a1 : Addr) (h0 : Heap) (n0 : Nat) (v : Option Value) (h : Heap) (L : List Loc) : Prop := v = none ∧ Fr n0 L ∧ h = h0
set_option maxRecDepth 65536 in
set_option maxHeartbeats 40000000 in
theorem rm6n (l : Launch) (Z : State) (a0 : Array Value) (hw : ∀ d ∈ tables_1, d.before a0 Z = true) (ws : List Jvm.Cond) (a1 : Addr) (h0 : Heap) (n0 : Nat) (Z0 : n0 ≤ h0.size) :
    MetFree l (⟨"com/example/millrace/millrace/runtime/aggregate/Count", "remove", "(Ljava/lang/Object;)V"⟩ : MethodName) (head1 (Jvm.Cond.code (⟨"com/example/millrace/millrace/runtime/aggregate/Count", "remove", "(Ljava/lang/Object;)V"⟩ : MethodName) prog_82_method_3_code 2 none :: ws) ({ frames := 0, cells := 0, slots := 0, locals := 0 } : Room)) (fun a U => a = #[(.ref a1), .null] ∧ Z.Warmed39 U.vm ∧ U.heap = h0) (fun _ _ _ _ _ => True) (fun _ U o U' => ∃ v L, o = .returned v ∧ Q6n Z a1 h0 n0 v U'.heap L ∧ FrameEnd U o U' L ({ frames := 0, cells := 0, slots := 0, locals := 0 } : Room).cells ({ frames := 0, cells := 0, slots := 0, locals := 0 } : Room).slots) := by
  refine MetFree.of_bodySF (plainFor_of_name pn_2) hisR ?_
  intro p e s m args below meth c s₁ Bd hml0 hP hK
  obtain ⟨rfl, hZ, hh⟩ := hP
  have hx := Bd.exec
  have hby := Bd.bytes
  have hml : c.maxLocals = 2 := hml0
  have hown : s.vm.findClass "com/example/millrace/millrace/runtime/aggregate/Count" = some m.cls := findClass_of_methodNamed Bd.named
  have hnm := (name_of_methodNamed Bd.named Bd.method).1
  have X0 : Stand p l e ({ frames := 0, cells := 0, slots := 0, locals := 0 } : Room) s m #[(.ref a1), .null] below meth c s₁ [] 0 0 := Stand.of_body Bd
  have e0 : s₁.heap = h0 := by rw [← hh, Bd.state]; rfl
  have N0 := Fr.nil n0
  have pre0 : ∀ t, Steps p.tables e below (s₁.setTop (mkF m 0 #[.val (.ref a1), .val .null] [])) t → Steps p.tables e below (s₁.setTop (entryFrame m #[(.ref a1), .null] 2)) t := fun t k => castTop (ef_6n m a1) k
  obtain ⟨fs, hr, hrun, hended, hW, hsame⟩ := X0.leave (v := none) (fun _ => rfl)
  refine ⟨_, _, pre0 _ ?_, hrun, hended, _, _, rfl, ?_, ⟨_, rfl⟩, hW, hsame.mono (by decide) (by decide)⟩
  · show Steps p.tables e below (s₁.setTop (mkF m 0 #[.val (.ref a1), .val .null] [])) _
    refine XS.aloadN X0.here hx rfl (hb hby d6_0) rfl rfl ?_
    show Steps p.tables e below (s₁.setTop (mkF m 1 #[.val (.ref a1), .val .null] [.null])) _
    refine XS.ifnullYes X0.here hx rfl (pc0 := 1) (pc' := 14) rfl (hb hby d6_1) rfl (by decide) (by decide) ?_
    show Steps p.tables e below (s₁.setTop (mkF m 14 #[.val (.ref a1), .val .null] [])) _
    exact X0.returnOut hx Bd.returns (hb hby d6_14) hr
  · show Q6n Z a1 h0 n0 _ s₁.heap _
    rw [e0]
    exact ⟨rfl, N0, rfl⟩
theorem pd_2 : parseMethodDescriptor "(Ljava/lang/Object;)V" = some ⟨[(.object "java/lang/Object")], none⟩ := by decide +kernel
theorem pn_3 : plainName "com/example/millrace/millrace/runtime/aggregate/CountEqualsPinLaw" = true := by first | (simp [plainName, overriddenIn]; done) | decide +kernel
theorem d4_0 : decode method_3_code 0 = .ok (.iload_n 1, 1) := by decide +kernel
theorem d4_1 : decode method_3_code 1 = .ok (.ifCond .ne 12, 3) := by decide +kernel
theorem d4_4 : decode method_3_code 4 = .ok (.aload_n 0, 1) := by decide +kernel
theorem d4_5 : decode method_3_code 5 = .ok (.aload_n 2, 1) := by decide +kernel
theorem d4_6 : decode method_3_code 6 = .ok (.invokevirtual 31, 3) := by decide +kernel
theorem d4_9 : decode method_3_code 9 = .ok (.iload_n 3, 1) := by decide +kernel
theorem d4_10 : decode method_3_code 10 = .ok (.iconst 1, 1) := by decide +kernel
theorem d4_11 : decode method_3_code 11 = .ok (.iadd, 1) := by decide +kernel
theorem d4_12 : decode method_3_code 12 = .ok (.ireturn, 1) := by decide +kernel
theorem d4_13 : decode method_3_code 13 = .ok (.iload_n 1, 1) := by decide +kernel
theorem d4_14 : decode method_3_code 14 = .ok (.iconst 1, 1) := by decide +kernel
theorem d4_15 : decode method_3_code 15 = .ok (.if_icmp .ne 18, 3) := by decide +kernel
theorem d4_18 : decode method_3_code 18 = .ok (.iload_n 3, 1) := by decide +kernel
theorem d4_19 : decode method_3_code 19 = .ok (.ifCond .le 12, 3) := by decide +kernel
theorem d4_22 : decode method_3_code 22 = .ok (.aload_n 0, 1) := by decide +kernel
theorem d4_23 : decode method_3_code 23 = .ok (.aload_n 2, 1) := by decide +kernel
theorem d4_24 : decode method_3_code 24 = .ok (.invokevirtual 35, 3) := by decide +kernel
theorem d4_27 : decode method_3_code 27 = .ok (.iload_n 3, 1) := by decide +kernel
theorem d4_28 : decode method_3_code 28 = .ok (.iconst 1, 1) := by decide +kernel
theorem d4_29 : decode method_3_code 29 = .ok (.isub, 1) := by decide +kernel
theorem d4_30 : decode method_3_code 30 = .ok (.ireturn, 1) := by decide +kernel
theorem d4_31 : decode method_3_code 31 = .ok (.iload_n 3, 1) := by decide +kernel
theorem d4_32 : decode method_3_code 32 = .ok (.ireturn, 1) := by decide +kernel
theorem d4_33 : decode method_3_code 33 = .ok (.iload_n 1, 1) := by decide +kernel
theorem d4_34 : decode method_3_code 34 = .ok (.iconst 2, 1) := by decide +kernel
theorem d4_35 : decode method_3_code 35 = .ok (.if_icmp .ne 10, 3) := by decide +kernel
theorem d4_38 : decode method_3_code 38 = .ok (.aload_n 0, 1) := by decide +kernel
theorem d4_39 : decode method_3_code 39 = .ok (.aconst_null, 1) := by decide +kernel
theorem d4_40 : decode method_3_code 40 = .ok (.invokevirtual 31, 3) := by decide +kernel
theorem d4_43 : decode method_3_code 43 = .ok (.iload_n 3, 1) := by decide +kernel
theorem d4_44 : decode method_3_code 44 = .ok (.ireturn, 1) := by decide +kernel
theorem d4_45 : decode method_3_code 45 = .ok (.aload_n 0, 1) := by decide +kernel
theorem d4_46 : decode method_3_code 46 = .ok (.aconst_null, 1) := by decide +kernel
theorem d4_47 : decode method_3_code 47 = .ok (.invokevirtual 35, 3) := by decide +kernel
theorem d4_50 : decode method_3_code 50 = .ok (.iload_n 3, 1) := by decide +kernel
theorem d4_51 : decode method_3_code 51 = .ok (.ireturn, 1) := by decide +kernel
theorem ef_4 (m : MethodId) (x0 : Addr) (x1 : Int32) (x2 : Addr) (x3 : Int32) : entryFrame m #[(.ref x0), (.int x1), (.ref x2), (.int x3)] 4 = mkF m 0 #[.val (.ref x0), .val (.int x1), .val (.ref x2), .val (.int x3)] [] := by first | (simp [entryFrame, mkF, argsToLocals, Value.category]; done) | rfl
def f4 (p2 : Int32) (p4 : Int32) (w_count_a1 : Int64) : Int32 := (if p2 = (0 : Int32) then (p4 + (1 : Int32)) else (if p2 = (1 : Int32) then (if (0 : Int32) < p4 then (p4 - (1 : Int32)) else p4) else (if p2 = (2 : Int32) then p4 else p4)))
def f4_o0 (p2 : Int32) (p4 : Int32) (w_count_a1 : Int64) : Int64 := (if p2 = (0 : Int32) then (f5_o0 w_count_a1) else (if p2 = (1 : Int32) then (if (0 : Int32) < p4 then (f6_o0 w_count_a1) else w_count_a1) else (if p2 = (2 : Int32) then w_count_a1 else w_count_a1)))
def Q4 (Z : State) (a1 : Addr) (p2 : Int32) (a3 : Addr) (p4 : Int32) (w_count_a1 : Int64) (h0 : Heap) (n0 : Nat) (v : Option Value) (h : Heap) (L : List Loc) : Prop := v = some (.int (f4 p2 p4 w_count_a1)) ∧ Fr n0 L ∧ Keep h0 h [a1] ∧ Fld Z h a1 "com/example/millrace/millrace/runtime/aggregate/Count" "count" "J" (.long (f4_o0 p2 p4 w_count_a1))
set_option maxRecDepth 65536 in
set_option maxHeartbeats 40000000 in
theorem rm4 (l : Launch) (Z : State) (a0 : Array Value) (hw : ∀ d ∈ tables_1, d.before a0 Z = true) (ws : List Jvm.Cond) (a1 : Addr) (p2 : Int32) (a3 : Addr) (p4 : Int32) (w_count_a1 : Int64) (h0 : Heap) (n0 : Nat) (Z0 : n0 ≤ h0.size) (F_count_a1 : Fld Z h0 a1 "com/example/millrace/millrace/runtime/aggregate/Count" "count" "J" (.long w_count_a1)) (E_a1 : Exa Z h0 a1 "com/example/millrace/millrace/runtime/aggregate/Count") (g_a1 : n0 ≤ a1) :
    MetFree l (⟨"com/example/millrace/millrace/runtime/aggregate/CountEqualsPinLaw", "step", "(Lcom/example/millrace/millrace/runtime/aggregate/Count;ILjava/lang/Object;I)I"⟩ : MethodName) (head1 (Jvm.Cond.code (⟨"com/example/millrace/millrace/runtime/aggregate/CountEqualsPinLaw", "step", "(Lcom/example/millrace/millrace/runtime/aggregate/Count;ILjava/lang/Object;I)I"⟩ : MethodName) method_3_code 4 (some .int) :: ws) ({ frames := 1, cells := 0, slots := 0, locals := 13 } : Room)) (fun a U => a = #[(.ref a1), (.int p2), (.ref a3), (.int p4)] ∧ Z.Warmed39 U.vm ∧ U.heap = h0) (fun _ _ _ _ _ => True) (fun _ U o U' => ∃ v L, o = .returned v ∧ Q4 Z a1 p2 a3 p4 w_count_a1 h0 n0 v U'.heap L ∧ FrameEnd U o U' L ({ frames := 1, cells := 0, slots := 0, locals := 13 } : Room).cells ({ frames := 1, cells := 0, slots := 0, locals := 13 } : Room).slots) := by
  refine MetFree.of_bodySF (plainFor_of_name pn_3) hisR ?_
  intro p e s m args below meth c s₁ Bd hml0 hP hK
  obtain ⟨rfl, hZ, hh⟩ := hP
  have hx := Bd.exec
  have hby := Bd.bytes
  have hml : c.maxLocals = 4 := hml0
  have hown : s.vm.findClass "com/example/millrace/millrace/runtime/aggregate/CountEqualsPinLaw" = some m.cls := findClass_of_methodNamed Bd.named
  have hnm := (name_of_methodNamed Bd.named Bd.method).1
  have X0 : Stand p l e ({ frames := 1, cells := 0, slots := 0, locals := 13 } : Room) s m #[(.ref a1), (.int p2), (.ref a3), (.int p4)] below meth c s₁ [] 0 0 := Stand.of_body Bd
  have e0 : s₁.heap = h0 := by rw [← hh, Bd.state]; rfl
  have N0 := Fr.nil n0
  have pre0 : ∀ t, Steps p.tables e below (s₁.setTop (mkF m 0 #[.val (.ref a1), .val (.int p2), .val (.ref a3), .val (.int p4)] [])) t → Steps p.tables e below (s₁.setTop (entryFrame m #[(.ref a1), (.int p2), (.ref a3), (.int p4)] 4)) t := fun t k => castTop (ef_4 m a1 p2 a3 p4) k
  have pre1 : ∀ t, Steps p.tables e below (s₁.setTop (mkF m 1 #[.val (.ref a1), .val (.int p2), .val (.ref a3), .val (.int p4)] [(.int p2)])) t → Steps p.tables e below (s₁.setTop (entryFrame m #[(.ref a1), (.int p2), (.ref a3), (.int p4)] 4)) t := by
    intro t k
    refine pre0 t ?_
    show Steps p.tables e below (s₁.setTop (mkF m 0 #[.val (.ref a1), .val (.int p2), .val (.ref a3), .val (.int p4)] [])) _
    refine XS.iloadN X0.here hx rfl (hb hby d4_0) rfl ?_
    exact k
  by_cases hc1 : p2 = (0 : Int32)
  · obtain ⟨cq5, kq5, q5a, q5b, q5c⟩ := isOf hZ e0 E_a1
    obtain ⟨_, _, ⟨T5, L5, k5, n5⟩, -, X5, ⟨Lc5, hQ5, l5, y5, z5⟩, st5⟩ := X0.virtualBack hx (y := (⟨"com/example/millrace/millrace/runtime/aggregate/Count", "add", "(Ljava/lang/Object;)V"⟩ : MethodName)) (z := (⟨"com/example/millrace/millrace/runtime/aggregate/Count", "add", "(Ljava/lang/Object;)V"⟩ : MethodName)) hown (mvT hZ (hw _ (List.mem_of_getElem? (i := 20) rfl))) (mvT hZ (hw _ (List.mem_of_getElem? (i := 21) rfl))) (notFace_of_selects (args := #[]) (mvT hZ (hw _ (List.mem_of_getElem? (i := 23) rfl)))) (mvT hZ (hw _ (List.mem_of_getElem? (i := 23) rfl))) (mvT hZ (hw _ (List.mem_of_getElem? (i := 22) rfl))) (by decide) (backOf (W := 0) (rm5 l Z a0 hw [] a1 a3 w_count_a1 h0 n0 Z0 F_count_a1 E_a1 g_a1) hZ (hw _ (List.mem_of_getElem? (i := 24) rfl)) (hw _ (List.mem_of_getElem? (i := 9) rfl)) (by decide) (by decide)) q5a q5c (g := (mkF m 6 #[.val (.ref a1), .val (.int p2), .val (.ref a3), .val (.int p4)] [(.ref a3), (.ref a1)])) rfl (by rw [hml]; rfl) (Steps.refl _) (argsL := [(.ref a3)]) (rest := []) (lenOf pd_2 rfl) rfl (by show 2 * 0 + _ ≤ _; exact Nat.le_of_eq rfl) (hb hby d4_6) (fun _ _ => ⟨rfl, e0, (by decide : 0 + 0 ≤ _), (by decide : 0 + 0 ≤ _)⟩)
    dsimp only [Pt.U, Pt.locs, Pt.cells, Pt.slots] at X5 l5 y5 z5 st5 hQ5
    subst l5 y5 z5
    obtain ⟨rfl, N5q, K5, o5_0⟩ := hQ5
    have N5 := Fr.app N0 N5q
    have c6 : n0 ≤ T5.heap.size := Nat.le_trans Z0 K5.1
    have c7 : Fld Z T5.heap a1 "com/example/millrace/millrace/runtime/aggregate/Count" "count" "J" (.long (f5_o0 w_count_a1)) := o5_0
    have c8 : Exa Z T5.heap a1 "com/example/millrace/millrace/runtime/aggregate/Count" := E_a1.keep K5
    have c9 : Keep h0 T5.heap [a1] := (Keep.refl h0 [a1]).trans K5 (allS (Or.inl (List.mem_of_getElem? (i := 0) rfl)) all0)
    have eq2 : (f4 p2 p4 w_count_a1) = (p4 + (1 : Int32)) := by unfold f4; simp only [if_pos hc1]
    have eq3 : (f4_o0 p2 p4 w_count_a1) = (f5_o0 w_count_a1) := by unfold f4_o0; simp only [if_pos hc1]
    obtain ⟨fs, hr, hrun, hended, hW, hsame⟩ := X5.leave (v := some (.int (p4 + (1 : Int32)))) (fun h => by rw [Bd.returns] at h; cases h)
    refine ⟨_, _, pre1 _ ?_, hrun, hended, _, _, rfl, ?_, ⟨_, rfl⟩, hW, hsame.mono (by decide) (by decide)⟩
    · show Steps p.tables e below (s₁.setTop (mkF m 1 #[.val (.ref a1), .val (.int p2), .val (.ref a3), .val (.int p4)] [(.int p2)])) _
      refine XS.ifNo X0.here hx rfl (hb hby d4_1) rfl ((if0 _ _).trans (teq hc1).2) ?_
      show Steps p.tables e below (s₁.setTop (mkF m 4 #[.val (.ref a1), .val (.int p2), .val (.ref a3), .val (.int p4)] [])) _
      refine XS.aloadN X0.here hx rfl (hb hby d4_4) rfl rfl ?_
      show Steps p.tables e below (s₁.setTop (mkF m 5 #[.val (.ref a1), .val (.int p2), .val (.ref a3), .val (.int p4)] [(.ref a1)])) _
      refine XS.aloadN X0.here hx rfl (hb hby d4_5) rfl rfl ?_
      show Steps p.tables e below (s₁.setTop (mkF m 6 #[.val (.ref a1), .val (.int p2), .val (.ref a3), .val (.int p4)] [(.ref a3), (.ref a1)])) _
      refine st5.trans ?_
      show Steps p.tables e below (T5.setTop (mkF m 9 #[.val (.ref a1), .val (.int p2), .val (.ref a3), .val (.int p4)] [])) _
      refine XS.iloadN X5.here hx rfl (hb hby d4_9) rfl ?_
      show Steps p.tables e below (T5.setTop (mkF m 10 #[.val (.ref a1), .val (.int p2), .val (.ref a3), .val (.int p4)] [(.int p4)])) _
      refine XS.iconst X5.here hx rfl (hb hby d4_10) ?_
      show Steps p.tables e below (T5.setTop (mkF m 11 #[.val (.ref a1), .val (.int p2), .val (.ref a3), .val (.int p4)] [(.int (1 : Int32)), (.int p4)])) _
      refine XS.iadd X5.here hx rfl (hb hby d4_11) rfl ?_
      show Steps p.tables e below (T5.setTop (mkF m 12 #[.val (.ref a1), .val (.int p2), .val (.ref a3), .val (.int p4)] [(.int (p4 + (1 : Int32)))])) _
      exact retI X5 hx Bd.returns (hb hby d4_12) hr
    · show Q4 Z a1 p2 a3 p4 w_count_a1 h0 n0 _ T5.heap _
      exact ⟨by rw [eq2], N5, c9, (by rw [eq3]; exact c7)⟩
  · have pre4 : ∀ t, Steps p.tables e below (s₁.setTop (mkF m 15 #[.val (.ref a1), .val (.int p2), .val (.ref a3), .val (.int p4)] [(.int (1 : Int32)), (.int p2)])) t → Steps p.tables e below (s₁.setTop (entryFrame m #[(.ref a1), (.int p2), (.ref a3), (.int p4)] 4)) t := by
      intro t k
      refine pre1 t ?_
      show Steps p.tables e below (s₁.setTop (mkF m 1 #[.val (.ref a1), .val (.int p2), .val (.ref a3), .val (.int p4)] [(.int p2)])) _
      refine XS.ifYes X0.here hx rfl (pc0 := 1) (pc' := 13) rfl (hb hby d4_1) rfl ((if0 _ _).trans (feq hc1).2) (by decide) (by decide) ?_
      show Steps p.tables e below (s₁.setTop (mkF m 13 #[.val (.ref a1), .val (.int p2), .val (.ref a3), .val (.int p4)] [])) _
      refine XS.iloadN X0.here hx rfl (hb hby d4_13) rfl ?_
      show Steps p.tables e below (s₁.setTop (mkF m 14 #[.val (.ref a1), .val (.int p2), .val (.ref a3), .val (.int p4)] [(.int p2)])) _
      refine XS.iconst X0.here hx rfl (hb hby d4_14) ?_
      exact k
    by_cases hc15 : p2 = (1 : Int32)
    · have pre5 : ∀ t, Steps p.tables e below (s₁.setTop (mkF m 19 #[.val (.ref a1), .val (.int p2), .val (.ref a3), .val (.int p4)] [(.int p4)])) t → Steps p.tables e below (s₁.setTop (entryFrame m #[(.ref a1), (.int p2), (.ref a3), (.int p4)] 4)) t := by
        intro t k
        refine pre4 t ?_
        show Steps p.tables e below (s₁.setTop (mkF m 15 #[.val (.ref a1), .val (.int p2), .val (.ref a3), .val (.int p4)] [(.int (1 : Int32)), (.int p2)])) _
        refine XS.icmpNo X0.here hx rfl (hb hby d4_15) rfl (teq hc15).2 ?_
        show Steps p.tables e below (s₁.setTop (mkF m 18 #[.val (.ref a1), .val (.int p2), .val (.ref a3), .val (.int p4)] [])) _
        refine XS.iloadN X0.here hx rfl (hb hby d4_18) rfl ?_
        exact k
      by_cases hc19 : (0 : Int32) < p4
      · obtain ⟨cq10, kq10, q10a, q10b, q10c⟩ := isOf hZ e0 E_a1
        obtain ⟨_, _, ⟨T10, L10, k10, n10⟩, -, X10, ⟨Lc10, hQ10, l10, y10, z10⟩, st10⟩ := X0.virtualBack hx (y := (⟨"com/example/millrace/millrace/runtime/aggregate/Count", "remove", "(Ljava/lang/Object;)V"⟩ : MethodName)) (z := (⟨"com/example/millrace/millrace/runtime/aggregate/Count", "remove", "(Ljava/lang/Object;)V"⟩ : MethodName)) hown (mvT hZ (hw _ (List.mem_of_getElem? (i := 27) rfl))) (mvT hZ (hw _ (List.mem_of_getElem? (i := 28) rfl))) (notFace_of_selects (args := #[]) (mvT hZ (hw _ (List.mem_of_getElem? (i := 30) rfl)))) (mvT hZ (hw _ (List.mem_of_getElem? (i := 30) rfl))) (mvT hZ (hw _ (List.mem_of_getElem? (i := 29) rfl))) (by decide) (backOf (W := 0) (rm6 l Z a0 hw [] a1 a3 w_count_a1 h0 n0 Z0 F_count_a1 E_a1 g_a1) hZ (hw _ (List.mem_of_getElem? (i := 31) rfl)) (hw _ (List.mem_of_getElem? (i := 9) rfl)) (by decide) (by decide)) q10a q10c (g := (mkF m 24 #[.val (.ref a1), .val (.int p2), .val (.ref a3), .val (.int p4)] [(.ref a3), (.ref a1)])) rfl (by rw [hml]; rfl) (Steps.refl _) (argsL := [(.ref a3)]) (rest := []) (lenOf pd_2 rfl) rfl (by show 2 * 0 + _ ≤ _; exact Nat.le_of_eq rfl) (hb hby d4_24) (fun _ _ => ⟨rfl, e0, (by decide : 0 + 0 ≤ _), (by decide : 0 + 0 ≤ _)⟩)
        dsimp only [Pt.U, Pt.locs, Pt.cells, Pt.slots] at X10 l10 y10 z10 st10 hQ10
        subst l10 y10 z10
        obtain ⟨rfl, N10q, K10, o10_0⟩ := hQ10
        have N10 := Fr.app N0 N10q
        have c11 : n0 ≤ T10.heap.size := Nat.le_trans Z0 K10.1
        have c12 : Fld Z T10.heap a1 "com/example/millrace/millrace/runtime/aggregate/Count" "count" "J" (.long (f6_o0 w_count_a1)) := o10_0
        have c13 : Exa Z T10.heap a1 "com/example/millrace/millrace/runtime/aggregate/Count" := E_a1.keep K10
        have c14 : Keep h0 T10.heap [a1] := (Keep.refl h0 [a1]).trans K10 (allS (Or.inl (List.mem_of_getElem? (i := 0) rfl)) all0)
        have eq6 : (f4 p2 p4 w_count_a1) = (p4 - (1 : Int32)) := by unfold f4; simp only [if_neg hc1, if_pos hc15, if_pos hc19]
        have eq7 : (f4_o0 p2 p4 w_count_a1) = (f6_o0 w_count_a1) := by unfold f4_o0; simp only [if_neg hc1, if_pos hc15, if_pos hc19]
        obtain ⟨fs, hr, hrun, hended, hW, hsame⟩ := X10.leave (v := some (.int (p4 - (1 : Int32)))) (fun h => by rw [Bd.returns] at h; cases h)
        refine ⟨_, _, pre5 _ ?_, hrun, hended, _, _, rfl, ?_, ⟨_, rfl⟩, hW, hsame.mono (by decide) (by decide)⟩
        · show Steps p.tables e below (s₁.setTop (mkF m 19 #[.val (.ref a1), .val (.int p2), .val (.ref a3), .val (.int p4)] [(.int p4)])) _
          refine XS.ifNo X0.here hx rfl (hb hby d4_19) rfl ((if0 _ _).trans (tlt hc19).2.2.2) ?_
          show Steps p.tables e below (s₁.setTop (mkF m 22 #[.val (.ref a1), .val (.int p2), .val (.ref a3), .val (.int p4)] [])) _
          refine XS.aloadN X0.here hx rfl (hb hby d4_22) rfl rfl ?_
          show Steps p.tables e below (s₁.setTop (mkF m 23 #[.val (.ref a1), .val (.int p2), .val (.ref a3), .val (.int p4)] [(.ref a1)])) _
          refine XS.aloadN X0.here hx rfl (hb hby d4_23) rfl rfl ?_
          show Steps p.tables e below (s₁.setTop (mkF m 24 #[.val (.ref a1), .val (.int p2), .val (.ref a3), .val (.int p4)] [(.ref a3), (.ref a1)])) _
          refine st10.trans ?_
          show Steps p.tables e below (T10.setTop (mkF m 27 #[.val (.ref a1), .val (.int p2), .val (.ref a3), .val (.int p4)] [])) _
          refine XS.iloadN X10.here hx rfl (hb hby d4_27) rfl ?_
          show Steps p.tables e below (T10.setTop (mkF m 28 #[.val (.ref a1), .val (.int p2), .val (.ref a3), .val (.int p4)] [(.int p4)])) _
          refine XS.iconst X10.here hx rfl (hb hby d4_28) ?_
          show Steps p.tables e below (T10.setTop (mkF m 29 #[.val (.ref a1), .val (.int p2), .val (.ref a3), .val (.int p4)] [(.int (1 : Int32)), (.int p4)])) _
          refine XS.isub X10.here hx rfl (hb hby d4_29) rfl ?_
          show Steps p.tables e below (T10.setTop (mkF m 30 #[.val (.ref a1), .val (.int p2), .val (.ref a3), .val (.int p4)] [(.int (p4 - (1 : Int32)))])) _
          exact retI X10 hx Bd.returns (hb hby d4_30) hr
        · show Q4 Z a1 p2 a3 p4 w_count_a1 h0 n0 _ T10.heap _
          exact ⟨by rw [eq6], N10, c14, (by rw [eq7]; exact c12)⟩
      · have eq8 : (f4 p2 p4 w_count_a1) = p4 := by unfold f4; simp only [if_neg hc1, if_pos hc15, if_neg hc19]
        have eq9 : (f4_o0 p2 p4 w_count_a1) = w_count_a1 := by unfold f4_o0; simp only [if_neg hc1, if_pos hc15, if_neg hc19]
        obtain ⟨fs, hr, hrun, hended, hW, hsame⟩ := X0.leave (v := some (.int p4)) (fun h => by rw [Bd.returns] at h; cases h)
        refine ⟨_, _, pre5 _ ?_, hrun, hended, _, _, rfl, ?_, ⟨_, rfl⟩, hW, hsame.mono (by decide) (by decide)⟩
        · show Steps p.tables e below (s₁.setTop (mkF m 19 #[.val (.ref a1), .val (.int p2), .val (.ref a3), .val (.int p4)] [(.int p4)])) _
          refine XS.ifYes X0.here hx rfl (pc0 := 19) (pc' := 31) rfl (hb hby d4_19) rfl ((if0 _ _).trans (flt hc19).2.2.2) (by decide) (by decide) ?_
          show Steps p.tables e below (s₁.setTop (mkF m 31 #[.val (.ref a1), .val (.int p2), .val (.ref a3), .val (.int p4)] [])) _
          refine XS.iloadN X0.here hx rfl (hb hby d4_31) rfl ?_
          show Steps p.tables e below (s₁.setTop (mkF m 32 #[.val (.ref a1), .val (.int p2), .val (.ref a3), .val (.int p4)] [(.int p4)])) _
          exact retI X0 hx Bd.returns (hb hby d4_32) hr
        · show Q4 Z a1 p2 a3 p4 w_count_a1 h0 n0 _ s₁.heap _
          rw [e0]
          exact ⟨by rw [eq8], N0, (Keep.refl h0 [a1]), (by rw [eq9]; exact F_count_a1)⟩
    · have pre10 : ∀ t, Steps p.tables e below (s₁.setTop (mkF m 35 #[.val (.ref a1), .val (.int p2), .val (.ref a3), .val (.int p4)] [(.int (2 : Int32)), (.int p2)])) t → Steps p.tables e below (s₁.setTop (entryFrame m #[(.ref a1), (.int p2), (.ref a3), (.int p4)] 4)) t := by
        intro t k
        refine pre4 t ?_
        show Steps p.tables e below (s₁.setTop (mkF m 15 #[.val (.ref a1), .val (.int p2), .val (.ref a3), .val (.int p4)] [(.int (1 : Int32)), (.int p2)])) _
        refine XS.icmpYes X0.here hx rfl (pc0 := 15) (pc' := 33) rfl (hb hby d4_15) rfl (feq hc15).2 (by decide) (by decide) ?_
        show Steps p.tables e below (s₁.setTop (mkF m 33 #[.val (.ref a1), .val (.int p2), .val (.ref a3), .val (.int p4)] [])) _
        refine XS.iloadN X0.here hx rfl (hb hby d4_33) rfl ?_
        show Steps p.tables e below (s₁.setTop (mkF m 34 #[.val (.ref a1), .val (.int p2), .val (.ref a3), .val (.int p4)] [(.int p2)])) _
        refine XS.iconst X0.here hx rfl (hb hby d4_34) ?_
        exact k
      by_cases hc35 : p2 = (2 : Int32)
      · obtain ⟨cq15, kq15, q15a, q15b, q15c⟩ := isOf hZ e0 E_a1
        obtain ⟨_, _, ⟨T15, L15, k15, n15⟩, -, X15, ⟨Lc15, hQ15, l15, y15, z15⟩, st15⟩ := X0.virtualBack hx (y := (⟨"com/example/millrace/millrace/runtime/aggregate/Count", "add", "(Ljava/lang/Object;)V"⟩ : MethodName)) (z := (⟨"com/example/millrace/millrace/runtime/aggregate/Count", "add", "(Ljava/lang/Object;)V"⟩ : MethodName)) hown (mvT hZ (hw _ (List.mem_of_getElem? (i := 20) rfl))) (mvT hZ (hw _ (List.mem_of_getElem? (i := 21) rfl))) (notFace_of_selects (args := #[]) (mvT hZ (hw _ (List.mem_of_getElem? (i := 23) rfl)))) (mvT hZ (hw _ (List.mem_of_getElem? (i := 23) rfl))) (mvT hZ (hw _ (List.mem_of_getElem? (i := 22) rfl))) (by decide) (backOf (W := 0) (rm5n l Z a0 hw [] a1 h0 n0 Z0 ) hZ (hw _ (List.mem_of_getElem? (i := 24) rfl)) (hw _ (List.mem_of_getElem? (i := 9) rfl)) (by decide) (by decide)) q15a q15c (g := (mkF m 40 #[.val (.ref a1), .val (.int p2), .val (.ref a3), .val (.int p4)] [.null, (.ref a1)])) rfl (by rw [hml]; rfl) (Steps.refl _) (argsL := [.null]) (rest := []) (lenOf pd_2 rfl) rfl (by show 2 * 0 + _ ≤ _; exact Nat.le_of_eq rfl) (hb hby d4_40) (fun _ _ => ⟨rfl, e0, (by decide : 0 + 0 ≤ _), (by decide : 0 + 0 ≤ _)⟩)
        dsimp only [Pt.U, Pt.locs, Pt.cells, Pt.slots] at X15 l15 y15 z15 st15 hQ15
        subst l15 y15 z15
        obtain ⟨rfl, N15q, e15⟩ := hQ15
        have N15 := Fr.app N0 N15q
        have eq11 : (f4 p2 p4 w_count_a1) = p4 := by unfold f4; simp only [if_neg hc1, if_neg hc15, if_pos hc35]
        have eq12 : (f4_o0 p2 p4 w_count_a1) = w_count_a1 := by unfold f4_o0; simp only [if_neg hc1, if_neg hc15, if_pos hc35]
        obtain ⟨fs, hr, hrun, hended, hW, hsame⟩ := X15.leave (v := some (.int p4)) (fun h => by rw [Bd.returns] at h; cases h)
        refine ⟨_, _, pre10 _ ?_, hrun, hended, _, _, rfl, ?_, ⟨_, rfl⟩, hW, hsame.mono (by decide) (by decide)⟩
        · show Steps p.tables e below (s₁.setTop (mkF m 35 #[.val (.ref a1), .val (.int p2), .val (.ref a3), .val (.int p4)] [(.int (2 : Int32)), (.int p2)])) _
          refine XS.icmpNo X0.here hx rfl (hb hby d4_35) rfl (teq hc35).2 ?_
          show Steps p.tables e below (s₁.setTop (mkF m 38 #[.val (.ref a1), .val (.int p2), .val (.ref a3), .val (.int p4)] [])) _
          refine XS.aloadN X0.here hx rfl (hb hby d4_38) rfl rfl ?_
          show Steps p.tables e below (s₁.setTop (mkF m 39 #[.val (.ref a1), .val (.int p2), .val (.ref a3), .val (.int p4)] [(.ref a1)])) _
          refine XS.aconstNull X0.here hx rfl (hb hby d4_39) ?_
          show Steps p.tables e below (s₁.setTop (mkF m 40 #[.val (.ref a1), .val (.int p2), .val (.ref a3), .val (.int p4)] [.null, (.ref a1)])) _
          refine st15.trans ?_
          show Steps p.tables e below (T15.setTop (mkF m 43 #[.val (.ref a1), .val (.int p2), .val (.ref a3), .val (.int p4)] [])) _
          refine XS.iloadN X15.here hx rfl (hb hby d4_43) rfl ?_
          show Steps p.tables e below (T15.setTop (mkF m 44 #[.val (.ref a1), .val (.int p2), .val (.ref a3), .val (.int p4)] [(.int p4)])) _
          exact retI X15 hx Bd.returns (hb hby d4_44) hr
        · show Q4 Z a1 p2 a3 p4 w_count_a1 h0 n0 _ T15.heap _
          rw [e15]
          exact ⟨by rw [eq11], N15, (Keep.refl h0 [a1]), (by rw [eq12]; exact F_count_a1)⟩
      · obtain ⟨cq16, kq16, q16a, q16b, q16c⟩ := isOf hZ e0 E_a1
        obtain ⟨_, _, ⟨T16, L16, k16, n16⟩, -, X16, ⟨Lc16, hQ16, l16, y16, z16⟩, st16⟩ := X0.virtualBack hx (y := (⟨"com/example/millrace/millrace/runtime/aggregate/Count", "remove", "(Ljava/lang/Object;)V"⟩ : MethodName)) (z := (⟨"com/example/millrace/millrace/runtime/aggregate/Count", "remove", "(Ljava/lang/Object;)V"⟩ : MethodName)) hown (mvT hZ (hw _ (List.mem_of_getElem? (i := 27) rfl))) (mvT hZ (hw _ (List.mem_of_getElem? (i := 28) rfl))) (notFace_of_selects (args := #[]) (mvT hZ (hw _ (List.mem_of_getElem? (i := 30) rfl)))) (mvT hZ (hw _ (List.mem_of_getElem? (i := 30) rfl))) (mvT hZ (hw _ (List.mem_of_getElem? (i := 29) rfl))) (by decide) (backOf (W := 0) (rm6n l Z a0 hw [] a1 h0 n0 Z0 ) hZ (hw _ (List.mem_of_getElem? (i := 31) rfl)) (hw _ (List.mem_of_getElem? (i := 9) rfl)) (by decide) (by decide)) q16a q16c (g := (mkF m 47 #[.val (.ref a1), .val (.int p2), .val (.ref a3), .val (.int p4)] [.null, (.ref a1)])) rfl (by rw [hml]; rfl) (Steps.refl _) (argsL := [.null]) (rest := []) (lenOf pd_2 rfl) rfl (by show 2 * 0 + _ ≤ _; exact Nat.le_of_eq rfl) (hb hby d4_47) (fun _ _ => ⟨rfl, e0, (by decide : 0 + 0 ≤ _), (by decide : 0 + 0 ≤ _)⟩)
        dsimp only [Pt.U, Pt.locs, Pt.cells, Pt.slots] at X16 l16 y16 z16 st16 hQ16
        subst l16 y16 z16
        obtain ⟨rfl, N16q, e16⟩ := hQ16
        have N16 := Fr.app N0 N16q
        have eq13 : (f4 p2 p4 w_count_a1) = p4 := by unfold f4; simp only [if_neg hc1, if_neg hc15, if_neg hc35]
        have eq14 : (f4_o0 p2 p4 w_count_a1) = w_count_a1 := by unfold f4_o0; simp only [if_neg hc1, if_neg hc15, if_neg hc35]
        obtain ⟨fs, hr, hrun, hended, hW, hsame⟩ := X16.leave (v := some (.int p4)) (fun h => by rw [Bd.returns] at h; cases h)
        refine ⟨_, _, pre10 _ ?_, hrun, hended, _, _, rfl, ?_, ⟨_, rfl⟩, hW, hsame.mono (by decide) (by decide)⟩
        · show Steps p.tables e below (s₁.setTop (mkF m 35 #[.val (.ref a1), .val (.int p2), .val (.ref a3), .val (.int p4)] [(.int (2 : Int32)), (.int p2)])) _
          refine XS.icmpYes X0.here hx rfl (pc0 := 35) (pc' := 45) rfl (hb hby d4_35) rfl (feq hc35).2 (by decide) (by decide) ?_
          show Steps p.tables e below (s₁.setTop (mkF m 45 #[.val (.ref a1), .val (.int p2), .val (.ref a3), .val (.int p4)] [])) _
          refine XS.aloadN X0.here hx rfl (hb hby d4_45) rfl rfl ?_
          show Steps p.tables e below (s₁.setTop (mkF m 46 #[.val (.ref a1), .val (.int p2), .val (.ref a3), .val (.int p4)] [(.ref a1)])) _
          refine XS.aconstNull X0.here hx rfl (hb hby d4_46) ?_
          show Steps p.tables e below (s₁.setTop (mkF m 47 #[.val (.ref a1), .val (.int p2), .val (.ref a3), .val (.int p4)] [.null, (.ref a1)])) _
          refine st16.trans ?_
          show Steps p.tables e below (T16.setTop (mkF m 50 #[.val (.ref a1), .val (.int p2), .val (.ref a3), .val (.int p4)] [])) _
          refine XS.iloadN X16.here hx rfl (hb hby d4_50) rfl ?_
          show Steps p.tables e below (T16.setTop (mkF m 51 #[.val (.ref a1), .val (.int p2), .val (.ref a3), .val (.int p4)] [(.int p4)])) _
          exact retI X16 hx Bd.returns (hb hby d4_51) hr
        · show Q4 Z a1 p2 a3 p4 w_count_a1 h0 n0 _ T16.heap _
          rw [e16]
          exact ⟨by rw [eq13], N16, (Keep.refl h0 [a1]), (by rw [eq14]; exact F_count_a1)⟩
theorem pn_4 : plainName "java/lang/Long" = true := by first | (simp [plainName, overriddenIn]; done) | decide +kernel
theorem d7_0 : decode jdk_35_method_24_code 0 = .ok (.sipush 128, 3) := by decide +kernel
theorem d7_3 : decode jdk_35_method_24_code 3 = .ok (.istore_n 2, 1) := by decide +kernel
theorem d7_4 : decode jdk_35_method_24_code 4 = .ok (.lload_n 0, 1) := by decide +kernel
theorem d7_5 : decode jdk_35_method_24_code 5 = .ok (.ldc2_w 230, 3) := by decide +kernel
theorem d7_8 : decode jdk_35_method_24_code 8 = .ok (.lcmp, 1) := by decide +kernel
theorem d7_9 : decode jdk_35_method_24_code 9 = .ok (.ifCond .lt 22, 3) := by decide +kernel
theorem d7_12 : decode jdk_35_method_24_code 12 = .ok (.lload_n 0, 1) := by decide +kernel
theorem d7_13 : decode jdk_35_method_24_code 13 = .ok (.ldc2_w 232, 3) := by decide +kernel
theorem d7_16 : decode jdk_35_method_24_code 16 = .ok (.lcmp, 1) := by decide +kernel
theorem d7_17 : decode jdk_35_method_24_code 17 = .ok (.ifCond .gt 14, 3) := by decide +kernel
theorem d7_20 : decode jdk_35_method_24_code 20 = .ok (.getstatic 234, 3) := by decide +kernel
theorem d7_23 : decode jdk_35_method_24_code 23 = .ok (.lload_n 0, 1) := by decide +kernel
theorem d7_24 : decode jdk_35_method_24_code 24 = .ok (.l2i, 1) := by decide +kernel
theorem d7_25 : decode jdk_35_method_24_code 25 = .ok (.sipush 128, 3) := by decide +kernel
theorem d7_28 : decode jdk_35_method_24_code 28 = .ok (.iadd, 1) := by decide +kernel
theorem d7_29 : decode jdk_35_method_24_code 29 = .ok (.aaload, 1) := by decide +kernel
theorem d7_30 : decode jdk_35_method_24_code 30 = .ok (.areturn, 1) := by decide +kernel
theorem ef_7 (m : MethodId) (x0 : Int64) : entryFrame m #[(.long x0)] 3 = mkF m 0 #[.val (.long x0), .second, .unset] [] := by first | (simp [entryFrame, mkF, argsToLocals, Value.category]; done) | rfl
def Q7 (Z : State) (q1 : Int64) (w_cache : Addr) (z_w_cache : Int32) (c_w_cache : Nat → Addr) (h0 : Heap) (n0 : Nat) (v : Option Value) (h : Heap) (L : List Loc) : Prop := (∃ r : Addr, v = some (.ref r) ∧ Exa Z h0 r "java/lang/Long") ∧ Fr n0 L ∧ h = h0
set_option maxRecDepth 65536 in
set_option maxHeartbeats 40000000 in
theorem rm7 (l : Launch) (Z : State) (a0 : Array Value) (hw : ∀ d ∈ tables_1, d.before a0 Z = true) (ws : List Jvm.Cond) (q1 : Int64) (w_cache : Addr) (z_w_cache : Int32) (c_w_cache : Nat → Addr) (h0 : Heap) (n0 : Nat) (Z0 : n0 ≤ h0.size) (S_cache : Sta Z h0 "java/lang/Long$LongCache" "cache" "[Ljava/lang/Long;" (.ref w_cache)) (V_w_cache : RAr Z h0 w_cache (.object "java/lang/Long") z_w_cache c_w_cache) (hz : z_w_cache = 256) (hq : -128 ≤ q1.toInt ∧ q1.toInt ≤ 127) (QE_c_w_cache : ∀ i : Nat, i < 256 → Exa Z h0 (c_w_cache i) "java/lang/Long") :
    MetFree l (⟨"java/lang/Long", "valueOf", "(J)Ljava/lang/Long;"⟩ : MethodName) (head1 (Jvm.Cond.code (⟨"java/lang/Long", "valueOf", "(J)Ljava/lang/Long;"⟩ : MethodName) jdk_35_method_24_code 3 (some (.object "java/lang/Long")) :: ws) ({ frames := 0, cells := 0, slots := 0, locals := 0 } : Room)) (fun a U => a = #[(.long q1)] ∧ Z.Warmed39 U.vm ∧ U.heap = h0) (fun _ _ _ _ _ => True) (fun _ U o U' => ∃ v L, o = .returned v ∧ Q7 Z q1 w_cache z_w_cache c_w_cache h0 n0 v U'.heap L ∧ FrameEnd U o U' L ({ frames := 0, cells := 0, slots := 0, locals := 0 } : Room).cells ({ frames := 0, cells := 0, slots := 0, locals := 0 } : Room).slots) := by
  refine MetFree.of_bodySF (plainFor_of_name pn_4) hisR ?_
  intro p e s m args below meth c s₁ Bd hml0 hP hK
  obtain ⟨rfl, hZ, hh⟩ := hP
  have hx := Bd.exec
  have hby := Bd.bytes
  have hml : c.maxLocals = 3 := hml0
  have hown : s.vm.findClass "java/lang/Long" = some m.cls := findClass_of_methodNamed Bd.named
  have hnm := (name_of_methodNamed Bd.named Bd.method).1
  have X0 : Stand p l e ({ frames := 0, cells := 0, slots := 0, locals := 0 } : Room) s m #[(.long q1)] below meth c s₁ [] 0 0 := Stand.of_body Bd
  have e0 : s₁.heap = h0 := by rw [← hh, Bd.state]; rfl
  have N0 := Fr.nil n0
  have pre0 : ∀ t, Steps p.tables e below (s₁.setTop (mkF m 0 #[.val (.long q1), .second, .unset] [])) t → Steps p.tables e below (s₁.setTop (entryFrame m #[(.long q1)] 3)) t := fun t k => castTop (ef_7 m q1) k
  obtain ⟨T2, X2, e2, st2⟩ := getS2 X0 hx hZ hown (host := "") (Or.inl (hw _ (List.mem_of_getElem? (i := 38) rfl))) Via.refl e0 S_cache (g := (mkF m 20 #[.val (.long q1), .second, .val (.int (128 : Int32))] [])) rfl (hb hby d7_20)
  obtain ⟨fs, hr, hrun, hended, hW, hsame⟩ := X2.leave (v := some (.ref (c_w_cache (((q1.toInt32) + (128 : Int32))).toNatClampNeg))) (fun h => by rw [Bd.returns] at h; cases h)
  refine ⟨_, _, pre0 _ ?_, hrun, hended, _, _, rfl, ?_, ⟨_, rfl⟩, hW, hsame.mono (by decide) (by decide)⟩
  · show Steps p.tables e below (s₁.setTop (mkF m 0 #[.val (.long q1), .second, .unset] [])) _
    refine XS.sipush X0.here hx rfl (hb hby d7_0) ?_
    show Steps p.tables e below (s₁.setTop (mkF m 3 #[.val (.long q1), .second, .unset] [(.int (128 : Int32))])) _
    refine XS.istoreN X0.here hx rfl (hb hby d7_3) rfl (l' := #[.val (.long q1), .second, .val (.int (128 : Int32))]) rfl ?_
    show Steps p.tables e below (s₁.setTop (mkF m 4 #[.val (.long q1), .second, .val (.int (128 : Int32))] [])) _
    refine XS.lloadN X0.here hx rfl (hb hby d7_4) rfl ?_
    show Steps p.tables e below (s₁.setTop (mkF m 5 #[.val (.long q1), .second, .val (.int (128 : Int32))] [(.long q1)])) _
    refine X0.ldc2Long hx hown (mvT hZ (hw _ (List.mem_of_getElem? (i := 36) rfl))) (g := (mkF m 5 #[.val (.long q1), .second, .val (.int (128 : Int32))] [(.long q1)])) rfl (hb hby d7_5) _ ?_
    show Steps p.tables e below (s₁.setTop (mkF m 8 #[.val (.long q1), .second, .val (.int (128 : Int32))] [(.long (-128 : Int64)), (.long q1)])) _
    refine XS.lcmp X0.here hx rfl (hb hby d7_8) rfl ?_
    show Steps p.tables e below (s₁.setTop (mkF m 9 #[.val (.long q1), .second, .val (.int (128 : Int32))] [(.int (lcmpW q1 (-128 : Int64)))])) _
    refine XS.ifNo X0.here hx rfl (hb hby d7_9) rfl ((if0 _ _).trans (flt (fun q => (own_l1 hq : ¬ (q1 < (-128 : Int64))) ((lw_lt _ _).mp q))).1) ?_
    show Steps p.tables e below (s₁.setTop (mkF m 12 #[.val (.long q1), .second, .val (.int (128 : Int32))] [])) _
    refine XS.lloadN X0.here hx rfl (hb hby d7_12) rfl ?_
    show Steps p.tables e below (s₁.setTop (mkF m 13 #[.val (.long q1), .second, .val (.int (128 : Int32))] [(.long q1)])) _
    refine X0.ldc2Long hx hown (mvT hZ (hw _ (List.mem_of_getElem? (i := 37) rfl))) (g := (mkF m 13 #[.val (.long q1), .second, .val (.int (128 : Int32))] [(.long q1)])) rfl (hb hby d7_13) _ ?_
    show Steps p.tables e below (s₁.setTop (mkF m 16 #[.val (.long q1), .second, .val (.int (128 : Int32))] [(.long (127 : Int64)), (.long q1)])) _
    refine XS.lcmp X0.here hx rfl (hb hby d7_16) rfl ?_
    show Steps p.tables e below (s₁.setTop (mkF m 17 #[.val (.long q1), .second, .val (.int (128 : Int32))] [(.int (lcmpW q1 (127 : Int64)))])) _
    refine XS.ifNo X0.here hx rfl (hb hby d7_17) rfl ((if0 _ _).trans (flt (fun q => (own_l2 hq : ¬ ((127 : Int64) < q1)) ((lw_gt _ _).mp q))).2.2.1) ?_
    show Steps p.tables e below (s₁.setTop (mkF m 20 #[.val (.long q1), .second, .val (.int (128 : Int32))] [])) _
    refine st2 _ ?_
    show Steps p.tables e below (T2.setTop (mkF m 23 #[.val (.long q1), .second, .val (.int (128 : Int32))] [(.ref w_cache)])) _
    refine XS.lloadN X2.here hx rfl (hb hby d7_23) rfl ?_
    show Steps p.tables e below (T2.setTop (mkF m 24 #[.val (.long q1), .second, .val (.int (128 : Int32))] [(.long q1), (.ref w_cache)])) _
    refine XS.l2i X2.here hx rfl (hb hby d7_24) rfl ?_
    show Steps p.tables e below (T2.setTop (mkF m 25 #[.val (.long q1), .second, .val (.int (128 : Int32))] [(.int (q1.toInt32)), (.ref w_cache)])) _
    refine XS.sipush X2.here hx rfl (hb hby d7_25) ?_
    show Steps p.tables e below (T2.setTop (mkF m 28 #[.val (.long q1), .second, .val (.int (128 : Int32))] [(.int (128 : Int32)), (.int (q1.toInt32)), (.ref w_cache)])) _
    refine XS.iadd X2.here hx rfl (hb hby d7_28) rfl ?_
    show Steps p.tables e below (T2.setTop (mkF m 29 #[.val (.long q1), .second, .val (.int (128 : Int32))] [(.int ((q1.toInt32) + (128 : Int32))), (.ref w_cache)])) _
    refine ldR X2 hx hZ e2 V_w_cache rfl (j := ((q1.toInt32) + (128 : Int32))) (by rw [hz]; exact ⟨(own_li hq).1, (own_li hq).2.1⟩) (g := (mkF m 29 #[.val (.long q1), .second, .val (.int (128 : Int32))] [(.int ((q1.toInt32) + (128 : Int32))), (.ref w_cache)])) rfl rfl (hb hby d7_29) ?_
    show Steps p.tables e below (T2.setTop (mkF m 30 #[.val (.long q1), .second, .val (.int (128 : Int32))] [(.ref (c_w_cache (((q1.toInt32) + (128 : Int32))).toNatClampNeg))])) _
    jvm_step X2.here [X2.here.top, hx, (hb hby d7_30), X2.method', Bd.returns, Value.isRef, FieldType.isReference]
    first | (intro acts; rw [hr _ acts rfl rfl rfl]) | rw [hr _ _ rfl rfl rfl]
    exact Steps.refl _
  · show Q7 Z q1 w_cache z_w_cache c_w_cache h0 n0 _ T2.heap _
    rw [e2]
    exact ⟨⟨_, rfl, QE_c_w_cache _ (own_li hq).2.2⟩, N0, rfl⟩
theorem d8_0 : decode prog_82_method_6_code 0 = .ok (.aload_n 1, 1) := by decide +kernel
theorem d8_1 : decode prog_82_method_6_code 1 = .ok (.instanceof 8, 3) := by decide +kernel
theorem d8_4 : decode prog_82_method_6_code 4 = .ok (.ifCond .eq 24, 3) := by decide +kernel
theorem d8_7 : decode prog_82_method_6_code 7 = .ok (.aload_n 1, 1) := by decide +kernel
theorem d8_8 : decode prog_82_method_6_code 8 = .ok (.checkcast 8, 3) := by decide +kernel
theorem d8_11 : decode prog_82_method_6_code 11 = .ok (.astore_n 2, 1) := by decide +kernel
theorem d8_12 : decode prog_82_method_6_code 12 = .ok (.aload_n 0, 1) := by decide +kernel
theorem d8_13 : decode prog_82_method_6_code 13 = .ok (.getfield 7, 3) := by decide +kernel
theorem d8_16 : decode prog_82_method_6_code 16 = .ok (.aload_n 2, 1) := by decide +kernel
theorem d8_17 : decode prog_82_method_6_code 17 = .ok (.getfield 7, 3) := by decide +kernel
theorem d8_20 : decode prog_82_method_6_code 20 = .ok (.lcmp, 1) := by decide +kernel
theorem d8_21 : decode prog_82_method_6_code 21 = .ok (.ifCond .ne 7, 3) := by decide +kernel
theorem d8_24 : decode prog_82_method_6_code 24 = .ok (.iconst 1, 1) := by decide +kernel
theorem d8_25 : decode prog_82_method_6_code 25 = .ok (.goto 4, 3) := by decide +kernel
theorem d8_28 : decode prog_82_method_6_code 28 = .ok (.iconst 0, 1) := by decide +kernel
theorem d8_29 : decode prog_82_method_6_code 29 = .ok (.ireturn, 1) := by decide +kernel
theorem ef_8 (m : MethodId) (x0 : Addr) (x1 : Addr) : entryFrame m #[(.ref x0), (.ref x1)] 3 = mkF m 0 #[.val (.ref x0), .val (.ref x1), .unset] [] := by first | (simp [entryFrame, mkF, argsToLocals, Value.category]; done) | rfl
def f8 (w_count_a1 : Int64) (w_count_a2 : Int64) : Int32 := (if w_count_a1 = w_count_a2 then (1 : Int32) else (0 : Int32))
def Q8 (Z : State) (a1 : Addr) (a2 : Addr) (w_count_a1 : Int64) (w_count_a2 : Int64) (h0 : Heap) (n0 : Nat) (v : Option Value) (h : Heap) (L : List Loc) : Prop := v = some (.int (f8 w_count_a1 w_count_a2)) ∧ Fr n0 L ∧ h = h0
set_option maxRecDepth 65536 in
set_option maxHeartbeats 40000000 in
theorem rm8 (l : Launch) (Z : State) (a0 : Array Value) (hw : ∀ d ∈ tables_1, d.before a0 Z = true) (ws : List Jvm.Cond) (a1 : Addr) (a2 : Addr) (w_count_a1 : Int64) (w_count_a2 : Int64) (h0 : Heap) (n0 : Nat) (Z0 : n0 ≤ h0.size) (F_count_a1 : Fld Z h0 a1 "com/example/millrace/millrace/runtime/aggregate/Count" "count" "J" (.long w_count_a1)) (E_a2 : Exa Z h0 a2 "com/example/millrace/millrace/runtime/aggregate/Count") (F_count_a2 : Fld Z h0 a2 "com/example/millrace/millrace/runtime/aggregate/Count" "count" "J" (.long w_count_a2)) :
    MetFree l (⟨"com/example/millrace/millrace/runtime/aggregate/Count", "equals", "(Ljava/lang/Object;)Z"⟩ : MethodName) (head1 (Jvm.Cond.code (⟨"com/example/millrace/millrace/runtime/aggregate/Count", "equals", "(Ljava/lang/Object;)Z"⟩ : MethodName) prog_82_method_6_code 3 (some .boolean) :: ws) ({ frames := 0, cells := 0, slots := 0, locals := 0 } : Room)) (fun a U => a = #[(.ref a1), (.ref a2)] ∧ Z.Warmed39 U.vm ∧ U.heap = h0) (fun _ _ _ _ _ => True) (fun _ U o U' => ∃ v L, o = .returned v ∧ Q8 Z a1 a2 w_count_a1 w_count_a2 h0 n0 v U'.heap L ∧ FrameEnd U o U' L ({ frames := 0, cells := 0, slots := 0, locals := 0 } : Room).cells ({ frames := 0, cells := 0, slots := 0, locals := 0 } : Room).slots) := by
  refine MetFree.of_bodySF (plainFor_of_name pn_2) hisR ?_
  intro p e s m args below meth c s₁ Bd hml0 hP hK
  obtain ⟨rfl, hZ, hh⟩ := hP
  have hx := Bd.exec
  have hby := Bd.bytes
  have hml : c.maxLocals = 3 := hml0
  have hown : s.vm.findClass "com/example/millrace/millrace/runtime/aggregate/Count" = some m.cls := findClass_of_methodNamed Bd.named
  have hnm := (name_of_methodNamed Bd.named Bd.method).1
  have X0 : Stand p l e ({ frames := 0, cells := 0, slots := 0, locals := 0 } : Room) s m #[(.ref a1), (.ref a2)] below meth c s₁ [] 0 0 := Stand.of_body Bd
  have e0 : s₁.heap = h0 := by rw [← hh, Bd.state]; rfl
  have N0 := Fr.nil n0
  have pre0 : ∀ t, Steps p.tables e below (s₁.setTop (mkF m 0 #[.val (.ref a1), .val (.ref a2), .unset] [])) t → Steps p.tables e below (s₁.setTop (entryFrame m #[(.ref a1), (.ref a2)] 3)) t := fun t k => castTop (ef_8 m a1 a2) k
  obtain ⟨T3, X3, e3, st3⟩ := instY X0 hx hZ hown (hw _ (List.mem_of_getElem? (i := 45) rfl)) e0 (Ins.self E_a2) (g := (mkF m 1 #[.val (.ref a1), .val (.ref a2), .unset] [(.ref a2)])) rfl rfl (hb hby d8_1)
  obtain ⟨T4, X4, e4, st4⟩ := castY X3 hx hZ hown (hw _ (List.mem_of_getElem? (i := 45) rfl)) e3 (Ins.self E_a2) (g := (mkF m 8 #[.val (.ref a1), .val (.ref a2), .unset] [(.ref a2)])) rfl rfl (hb hby d8_8)
  obtain ⟨T5, X5, e5, st5⟩ := getF X4 hx hZ hown (host := "") (Or.inl (hw _ (List.mem_of_getElem? (i := 25) rfl))) Via.refl e4 F_count_a1 (g := (mkF m 13 #[.val (.ref a1), .val (.ref a2), .val (.ref a2)] [(.ref a1)])) rfl rfl (hb hby d8_13)
  obtain ⟨T6, X6, e6, st6⟩ := getF X5 hx hZ hown (host := "") (Or.inl (hw _ (List.mem_of_getElem? (i := 25) rfl))) Via.refl e5 F_count_a2 (g := (mkF m 17 #[.val (.ref a1), .val (.ref a2), .val (.ref a2)] [(.ref a2), (.long w_count_a1)])) rfl rfl (hb hby d8_17)
  have pre1 : ∀ t, Steps p.tables e below (T6.setTop (mkF m 21 #[.val (.ref a1), .val (.ref a2), .val (.ref a2)] [(.int (lcmpW w_count_a1 w_count_a2))])) t → Steps p.tables e below (s₁.setTop (entryFrame m #[(.ref a1), (.ref a2)] 3)) t := by
    intro t k
    refine pre0 t ?_
    show Steps p.tables e below (s₁.setTop (mkF m 0 #[.val (.ref a1), .val (.ref a2), .unset] [])) _
    refine XS.aloadN X0.here hx rfl (hb hby d8_0) rfl rfl ?_
    show Steps p.tables e below (s₁.setTop (mkF m 1 #[.val (.ref a1), .val (.ref a2), .unset] [(.ref a2)])) _
    refine st3 _ ?_
    show Steps p.tables e below (T3.setTop (mkF m 4 #[.val (.ref a1), .val (.ref a2), .unset] [(.int (1 : Int32))])) _
    refine XS.ifNo X3.here hx rfl (hb hby d8_4) rfl ((if0 _ _).trans (feq (by decide : ¬ ((1 : Int32) = (0 : Int32)))).1) ?_
    show Steps p.tables e below (T3.setTop (mkF m 7 #[.val (.ref a1), .val (.ref a2), .unset] [])) _
    refine XS.aloadN X3.here hx rfl (hb hby d8_7) rfl rfl ?_
    show Steps p.tables e below (T3.setTop (mkF m 8 #[.val (.ref a1), .val (.ref a2), .unset] [(.ref a2)])) _
    refine st4 _ ?_
    show Steps p.tables e below (T4.setTop (mkF m 11 #[.val (.ref a1), .val (.ref a2), .unset] [(.ref a2)])) _
    refine XS.astoreN X4.here hx rfl (hb hby d8_11) rfl rfl (l' := #[.val (.ref a1), .val (.ref a2), .val (.ref a2)]) rfl ?_
    show Steps p.tables e below (T4.setTop (mkF m 12 #[.val (.ref a1), .val (.ref a2), .val (.ref a2)] [])) _
    refine XS.aloadN X4.here hx rfl (hb hby d8_12) rfl rfl ?_
    show Steps p.tables e below (T4.setTop (mkF m 13 #[.val (.ref a1), .val (.ref a2), .val (.ref a2)] [(.ref a1)])) _
    refine st5 _ ?_
    show Steps p.tables e below (T5.setTop (mkF m 16 #[.val (.ref a1), .val (.ref a2), .val (.ref a2)] [(.long w_count_a1)])) _
    refine XS.aloadN X5.here hx rfl (hb hby d8_16) rfl rfl ?_
    show Steps p.tables e below (T5.setTop (mkF m 17 #[.val (.ref a1), .val (.ref a2), .val (.ref a2)] [(.ref a2), (.long w_count_a1)])) _
    refine st6 _ ?_
    show Steps p.tables e below (T6.setTop (mkF m 20 #[.val (.ref a1), .val (.ref a2), .val (.ref a2)] [(.long w_count_a2), (.long w_count_a1)])) _
    refine XS.lcmp X6.here hx rfl (hb hby d8_20) rfl ?_
    exact k
  by_cases hc21 : w_count_a1 = w_count_a2
  · have eq2 : (f8 w_count_a1 w_count_a2) = (1 : Int32) := by unfold f8; simp only [if_pos hc21]
    obtain ⟨fs, hr, hrun, hended, hW, hsame⟩ := X6.leave (v := some (.int (1 : Int32))) (fun h => by rw [Bd.returns] at h; cases h)
    refine ⟨_, _, pre1 _ ?_, hrun, hended, _, _, rfl, ?_, ⟨_, rfl⟩, hW, hsame.mono (by decide) (by decide)⟩
    · show Steps p.tables e below (T6.setTop (mkF m 21 #[.val (.ref a1), .val (.ref a2), .val (.ref a2)] [(.int (lcmpW w_count_a1 w_count_a2))])) _
      refine XS.ifNo X6.here hx rfl (hb hby d8_21) rfl ((if0 _ _).trans (teq ((lw_eq _ _).mpr hc21)).2) ?_
      show Steps p.tables e below (T6.setTop (mkF m 24 #[.val (.ref a1), .val (.ref a2), .val (.ref a2)] [])) _
      refine XS.iconst X6.here hx rfl (hb hby d8_24) ?_
      show Steps p.tables e below (T6.setTop (mkF m 25 #[.val (.ref a1), .val (.ref a2), .val (.ref a2)] [(.int (1 : Int32))])) _
      refine XS.goto X6.here hx rfl (pc0 := 25) (pc' := 29) rfl (hb hby d8_25) (by decide) (by decide) ?_
      show Steps p.tables e below (T6.setTop (mkF m 29 #[.val (.ref a1), .val (.ref a2), .val (.ref a2)] [(.int (1 : Int32))])) _
      exact retN X6 hx (t := .boolean) Bd.returns (by simp) (hb hby d8_29) hr
    · show Q8 Z a1 a2 w_count_a1 w_count_a2 h0 n0 _ T6.heap _
      rw [e6]
      exact ⟨by rw [eq2], N0, rfl⟩
  · have eq3 : (f8 w_count_a1 w_count_a2) = (0 : Int32) := by unfold f8; simp only [if_neg hc21]
    obtain ⟨fs, hr, hrun, hended, hW, hsame⟩ := X6.leave (v := some (.int (0 : Int32))) (fun h => by rw [Bd.returns] at h; cases h)
    refine ⟨_, _, pre1 _ ?_, hrun, hended, _, _, rfl, ?_, ⟨_, rfl⟩, hW, hsame.mono (by decide) (by decide)⟩
    · show Steps p.tables e below (T6.setTop (mkF m 21 #[.val (.ref a1), .val (.ref a2), .val (.ref a2)] [(.int (lcmpW w_count_a1 w_count_a2))])) _
      refine XS.ifYes X6.here hx rfl (pc0 := 21) (pc' := 28) rfl (hb hby d8_21) rfl ((if0 _ _).trans (feq (fun q => hc21 ((lw_eq _ _).mp q))).2) (by decide) (by decide) ?_
      show Steps p.tables e below (T6.setTop (mkF m 28 #[.val (.ref a1), .val (.ref a2), .val (.ref a2)] [])) _
      refine XS.iconst X6.here hx rfl (hb hby d8_28) ?_
      show Steps p.tables e below (T6.setTop (mkF m 29 #[.val (.ref a1), .val (.ref a2), .val (.ref a2)] [(.int (0 : Int32))])) _
      exact retN X6 hx (t := .boolean) Bd.returns (by simp) (hb hby d8_29) hr
    · show Q8 Z a1 a2 w_count_a1 w_count_a2 h0 n0 _ T6.heap _
      rw [e6]
      exact ⟨by rw [eq3], N0, rfl⟩
theorem ef_8n (m : MethodId) (x0 : Addr) : entryFrame m #[(.ref x0), .null] 3 = mkF m 0 #[.val (.ref x0), .val .null, .unset] [] := by first | (simp [entryFrame, mkF, argsToLocals, Value.category]; done) | rfl
def f8n  : Int32 := (0 : Int32)
def Q8n (Z : State) (a1 : Addr) (h0 : Heap) (n0 : Nat) (v : Option Value) (h : Heap) (L : List Loc) : Prop := v = some (.int f8n) ∧ Fr n0 L ∧ h = h0
set_option maxRecDepth 65536 in
set_option maxHeartbeats 40000000 in
theorem rm8n (l : Launch) (Z : State) (a0 : Array Value) (hw : ∀ d ∈ tables_1, d.before a0 Z = true) (ws : List Jvm.Cond) (a1 : Addr) (h0 : Heap) (n0 : Nat) (Z0 : n0 ≤ h0.size) :
    MetFree l (⟨"com/example/millrace/millrace/runtime/aggregate/Count", "equals", "(Ljava/lang/Object;)Z"⟩ : MethodName) (head1 (Jvm.Cond.code (⟨"com/example/millrace/millrace/runtime/aggregate/Count", "equals", "(Ljava/lang/Object;)Z"⟩ : MethodName) prog_82_method_6_code 3 (some .boolean) :: ws) ({ frames := 0, cells := 0, slots := 0, locals := 0 } : Room)) (fun a U => a = #[(.ref a1), .null] ∧ Z.Warmed39 U.vm ∧ U.heap = h0) (fun _ _ _ _ _ => True) (fun _ U o U' => ∃ v L, o = .returned v ∧ Q8n Z a1 h0 n0 v U'.heap L ∧ FrameEnd U o U' L ({ frames := 0, cells := 0, slots := 0, locals := 0 } : Room).cells ({ frames := 0, cells := 0, slots := 0, locals := 0 } : Room).slots) := by
  refine MetFree.of_bodySF (plainFor_of_name pn_2) hisR ?_
  intro p e s m args below meth c s₁ Bd hml0 hP hK
  obtain ⟨rfl, hZ, hh⟩ := hP
  have hx := Bd.exec
  have hby := Bd.bytes
  have hml : c.maxLocals = 3 := hml0
  have hown : s.vm.findClass "com/example/millrace/millrace/runtime/aggregate/Count" = some m.cls := findClass_of_methodNamed Bd.named
  have hnm := (name_of_methodNamed Bd.named Bd.method).1
  have X0 : Stand p l e ({ frames := 0, cells := 0, slots := 0, locals := 0 } : Room) s m #[(.ref a1), .null] below meth c s₁ [] 0 0 := Stand.of_body Bd
  have e0 : s₁.heap = h0 := by rw [← hh, Bd.state]; rfl
  have N0 := Fr.nil n0
  have pre0 : ∀ t, Steps p.tables e below (s₁.setTop (mkF m 0 #[.val (.ref a1), .val .null, .unset] [])) t → Steps p.tables e below (s₁.setTop (entryFrame m #[(.ref a1), .null] 3)) t := fun t k => castTop (ef_8n m a1) k
  have eq1 : f8n = (0 : Int32) := rfl
  obtain ⟨fs, hr, hrun, hended, hW, hsame⟩ := X0.leave (v := some (.int (0 : Int32))) (fun h => by rw [Bd.returns] at h; cases h)
  refine ⟨_, _, pre0 _ ?_, hrun, hended, _, _, rfl, ?_, ⟨_, rfl⟩, hW, hsame.mono (by decide) (by decide)⟩
  · show Steps p.tables e below (s₁.setTop (mkF m 0 #[.val (.ref a1), .val .null, .unset] [])) _
    refine XS.aloadN X0.here hx rfl (hb hby d8_0) rfl rfl ?_
    show Steps p.tables e below (s₁.setTop (mkF m 1 #[.val (.ref a1), .val .null, .unset] [.null])) _
    refine X0.instanceofNull hx (g := (mkF m 1 #[.val (.ref a1), .val .null, .unset] [.null])) rfl rfl (hb hby d8_1) _ ?_
    show Steps p.tables e below (s₁.setTop (mkF m 4 #[.val (.ref a1), .val .null, .unset] [(.int (0 : Int32))])) _
    refine XS.ifYes X0.here hx rfl (pc0 := 4) (pc' := 28) rfl (hb hby d8_4) rfl ((if0 _ _).trans (teq (by decide : (0 : Int32) = (0 : Int32))).1) (by decide) (by decide) ?_
    show Steps p.tables e below (s₁.setTop (mkF m 28 #[.val (.ref a1), .val .null, .unset] [])) _
    refine XS.iconst X0.here hx rfl (hb hby d8_28) ?_
    show Steps p.tables e below (s₁.setTop (mkF m 29 #[.val (.ref a1), .val .null, .unset] [(.int (0 : Int32))])) _
    exact retN X0 hx (t := .boolean) Bd.returns (by simp) (hb hby d8_29) hr
  · show Q8n Z a1 h0 n0 _ s₁.heap _
    rw [e0]
    exact ⟨by rw [eq1], N0, rfl⟩
theorem ef_8l (m : MethodId) (x0 : Addr) (x1 : Addr) : entryFrame m #[(.ref x0), (.ref x1)] 3 = mkF m 0 #[.val (.ref x0), .val (.ref x1), .unset] [] := by first | (simp [entryFrame, mkF, argsToLocals, Value.category]; done) | rfl
def f8l  : Int32 := (0 : Int32)
def Q8l (Z : State) (a1 : Addr) (a2 : Addr) (h0 : Heap) (n0 : Nat) (v : Option Value) (h : Heap) (L : List Loc) : Prop := v = some (.int f8l) ∧ Fr n0 L ∧ h = h0
set_option maxRecDepth 65536 in
set_option maxHeartbeats 40000000 in
theorem rm8l (l : Launch) (Z : State) (a0 : Array Value) (hw : ∀ d ∈ tables_1, d.before a0 Z = true) (ws : List Jvm.Cond) (a1 : Addr) (a2 : Addr) (h0 : Heap) (n0 : Nat) (Z0 : n0 ≤ h0.size) (E_a2 : Exa Z h0 a2 "java/lang/Long") :
    MetFree l (⟨"com/example/millrace/millrace/runtime/aggregate/Count", "equals", "(Ljava/lang/Object;)Z"⟩ : MethodName) (head1 (Jvm.Cond.code (⟨"com/example/millrace/millrace/runtime/aggregate/Count", "equals", "(Ljava/lang/Object;)Z"⟩ : MethodName) prog_82_method_6_code 3 (some .boolean) :: ws) ({ frames := 0, cells := 0, slots := 0, locals := 0 } : Room)) (fun a U => a = #[(.ref a1), (.ref a2)] ∧ Z.Warmed39 U.vm ∧ U.heap = h0) (fun _ _ _ _ _ => True) (fun _ U o U' => ∃ v L, o = .returned v ∧ Q8l Z a1 a2 h0 n0 v U'.heap L ∧ FrameEnd U o U' L ({ frames := 0, cells := 0, slots := 0, locals := 0 } : Room).cells ({ frames := 0, cells := 0, slots := 0, locals := 0 } : Room).slots) := by
  refine MetFree.of_bodySF (plainFor_of_name pn_2) hisR ?_
  intro p e s m args below meth c s₁ Bd hml0 hP hK
  obtain ⟨rfl, hZ, hh⟩ := hP
  have hx := Bd.exec
  have hby := Bd.bytes
  have hml : c.maxLocals = 3 := hml0
  have hown : s.vm.findClass "com/example/millrace/millrace/runtime/aggregate/Count" = some m.cls := findClass_of_methodNamed Bd.named
  have hnm := (name_of_methodNamed Bd.named Bd.method).1
  have X0 : Stand p l e ({ frames := 0, cells := 0, slots := 0, locals := 0 } : Room) s m #[(.ref a1), (.ref a2)] below meth c s₁ [] 0 0 := Stand.of_body Bd
  have e0 : s₁.heap = h0 := by rw [← hh, Bd.state]; rfl
  have N0 := Fr.nil n0
  have pre0 : ∀ t, Steps p.tables e below (s₁.setTop (mkF m 0 #[.val (.ref a1), .val (.ref a2), .unset] [])) t → Steps p.tables e below (s₁.setTop (entryFrame m #[(.ref a1), (.ref a2)] 3)) t := fun t k => castTop (ef_8l m a1 a2) k
  obtain ⟨T3, X3, e3, st3⟩ := instNo X0 hx hZ hown (hw _ (List.mem_of_getElem? (i := 45) rfl)) e0 E_a2 (own_no hw) (g := (mkF m 1 #[.val (.ref a1), .val (.ref a2), .unset] [(.ref a2)])) rfl rfl (hb hby d8_1)
  have eq1 : f8l = (0 : Int32) := rfl
  obtain ⟨fs, hr, hrun, hended, hW, hsame⟩ := X3.leave (v := some (.int (0 : Int32))) (fun h => by rw [Bd.returns] at h; cases h)
  refine ⟨_, _, pre0 _ ?_, hrun, hended, _, _, rfl, ?_, ⟨_, rfl⟩, hW, hsame.mono (by decide) (by decide)⟩
  · show Steps p.tables e below (s₁.setTop (mkF m 0 #[.val (.ref a1), .val (.ref a2), .unset] [])) _
    refine XS.aloadN X0.here hx rfl (hb hby d8_0) rfl rfl ?_
    show Steps p.tables e below (s₁.setTop (mkF m 1 #[.val (.ref a1), .val (.ref a2), .unset] [(.ref a2)])) _
    refine st3 _ ?_
    show Steps p.tables e below (T3.setTop (mkF m 4 #[.val (.ref a1), .val (.ref a2), .unset] [(.int (0 : Int32))])) _
    refine XS.ifYes X3.here hx rfl (pc0 := 4) (pc' := 28) rfl (hb hby d8_4) rfl ((if0 _ _).trans (teq (by decide : (0 : Int32) = (0 : Int32))).1) (by decide) (by decide) ?_
    show Steps p.tables e below (T3.setTop (mkF m 28 #[.val (.ref a1), .val (.ref a2), .unset] [])) _
    refine XS.iconst X3.here hx rfl (hb hby d8_28) ?_
    show Steps p.tables e below (T3.setTop (mkF m 29 #[.val (.ref a1), .val (.ref a2), .unset] [(.int (0 : Int32))])) _
    exact retN X3 hx (t := .boolean) Bd.returns (by simp) (hb hby d8_29) hr
  · show Q8l Z a1 a2 h0 n0 _ T3.heap _
    rw [e3]
    exact ⟨by rw [eq1], N0, rfl⟩
theorem pd_3 : parseMethodDescriptor "(I)Ljava/lang/Integer;" = some ⟨[.int], some (.object "java/lang/Integer")⟩ := by decide +kernel
theorem pd_4 : parseMethodDescriptor "(Lcom/example/millrace/millrace/runtime/aggregate/Count;ILjava/lang/Object;I)I" = some ⟨[(.object "com/example/millrace/millrace/runtime/aggregate/Count"), .int, (.object "java/lang/Object"), .int], some .int⟩ := by decide +kernel
theorem pd_5 : parseMethodDescriptor "(J)Ljava/lang/Long;" = some ⟨[.long], some (.object "java/lang/Long")⟩ := by decide +kernel
theorem pd_6 : parseMethodDescriptor "(Ljava/lang/Object;)Z" = some ⟨[(.object "java/lang/Object")], some .boolean⟩ := by decide +kernel
theorem ef_0 (m : MethodId) (x0 : Int32) (x1 : Int32) (x2 : Int32) (x3 : Int32) : entryFrame m #[(.int x0), (.int x1), (.int x2), (.int x3)] maxLocals = mkF m 0 #[.val (.int x0), .val (.int x1), .val (.int x2), .val (.int x3), .unset, .unset, .unset, .unset, .unset, .unset, .unset, .unset, .unset, .unset] [] := by first | (simp [entryFrame, mkF, argsToLocals, Value.category, maxLocals]; done) | rfl
def f0_v55 (p1 : Int32) : Int32 := (f4 (((p1.toUInt32 >>> ((2 : Int32) &&& 31).toUInt32).toInt32) &&& (3 : Int32)) (f4 (p1 &&& (3 : Int32)) (0 : Int32) (0 : Int64)) (f4_o0 (p1 &&& (3 : Int32)) (0 : Int32) (0 : Int64)))
def f0_v71 (p1 : Int32) : Int32 := (f4 (((p1.toUInt32 >>> ((4 : Int32) &&& 31).toUInt32).toInt32) &&& (3 : Int32)) (f0_v55 p1) (f4_o0 (((p1.toUInt32 >>> ((2 : Int32) &&& 31).toUInt32).toInt32) &&& (3 : Int32)) (f4 (p1 &&& (3 : Int32)) (0 : Int32) (0 : Int64)) (f4_o0 (p1 &&& (3 : Int32)) (0 : Int32) (0 : Int64))))
def f0_v104 (p2 : Int32) : Int32 := (f4 (((p2.toUInt32 >>> ((2 : Int32) &&& 31).toUInt32).toInt32) &&& (3 : Int32)) (f4 (p2 &&& (3 : Int32)) (0 : Int32) (0 : Int64)) (f4_o0 (p2 &&& (3 : Int32)) (0 : Int32) (0 : Int64)))
def f0_v120 (p2 : Int32) : Int32 := (f4 (((p2.toUInt32 >>> ((4 : Int32) &&& 31).toUInt32).toInt32) &&& (3 : Int32)) (f0_v104 p2) (f4_o0 (((p2.toUInt32 >>> ((2 : Int32) &&& 31).toUInt32).toInt32) &&& (3 : Int32)) (f4 (p2 &&& (3 : Int32)) (0 : Int32) (0 : Int64)) (f4_o0 (p2 &&& (3 : Int32)) (0 : Int32) (0 : Int64))))
def f0_s0_148 (p1 : Int32) (p2 : Int32) : Int32 := (if (f0_v71 p1) = (f0_v120 p2) then (1 : Int32) else (0 : Int32))
def f0_v202 (p1 : Int32) (p2 : Int32) : Int32 := (f8 (f4_o0 (((p1.toUInt32 >>> ((4 : Int32) &&& 31).toUInt32).toInt32) &&& (3 : Int32)) (f0_v55 p1) (f4_o0 (((p1.toUInt32 >>> ((2 : Int32) &&& 31).toUInt32).toInt32) &&& (3 : Int32)) (f4 (p1 &&& (3 : Int32)) (0 : Int32) (0 : Int64)) (f4_o0 (p1 &&& (3 : Int32)) (0 : Int32) (0 : Int64)))) (f4_o0 (((p2.toUInt32 >>> ((4 : Int32) &&& 31).toUInt32).toInt32) &&& (3 : Int32)) (f0_v104 p2) (f4_o0 (((p2.toUInt32 >>> ((2 : Int32) &&& 31).toUInt32).toInt32) &&& (3 : Int32)) (f4 (p2 &&& (3 : Int32)) (0 : Int32) (0 : Int64)) (f4_o0 (p2 &&& (3 : Int32)) (0 : Int32) (0 : Int64)))))
def f0_v211 (p1 : Int32) (p2 : Int32) : Int32 := (f8 (f4_o0 (((p2.toUInt32 >>> ((4 : Int32) &&& 31).toUInt32).toInt32) &&& (3 : Int32)) (f0_v104 p2) (f4_o0 (((p2.toUInt32 >>> ((2 : Int32) &&& 31).toUInt32).toInt32) &&& (3 : Int32)) (f4 (p2 &&& (3 : Int32)) (0 : Int32) (0 : Int64)) (f4_o0 (p2 &&& (3 : Int32)) (0 : Int32) (0 : Int64)))) (f4_o0 (((p1.toUInt32 >>> ((4 : Int32) &&& 31).toUInt32).toInt32) &&& (3 : Int32)) (f0_v55 p1) (f4_o0 (((p1.toUInt32 >>> ((2 : Int32) &&& 31).toUInt32).toInt32) &&& (3 : Int32)) (f4 (p1 &&& (3 : Int32)) (0 : Int32) (0 : Int64)) (f4_o0 (p1 &&& (3 : Int32)) (0 : Int32) (0 : Int64)))))
def f0_s0_234 (p1 : Int32) (p2 : Int32) : Int32 := (if (f0_v71 p1) = (f0_v120 p2) then (1 : Int32) else (0 : Int32))
def f0_s0_234_4 (p1 : Int32) (p2 : Int32) : Int32 := (if (f0_v71 p1) = (f0_v120 p2) then (1 : Int32) else (0 : Int32))
def f0_s0_234_5 (p1 : Int32) (p2 : Int32) : Int32 := (if (f0_v71 p1) = (f0_v120 p2) then (1 : Int32) else (0 : Int32))
def f0_v202_6 (p1 : Int32) : Int32 := (f8 (f4_o0 (((p1.toUInt32 >>> ((4 : Int32) &&& 31).toUInt32).toInt32) &&& (3 : Int32)) (f0_v55 p1) (f4_o0 (((p1.toUInt32 >>> ((2 : Int32) &&& 31).toUInt32).toInt32) &&& (3 : Int32)) (f4 (p1 &&& (3 : Int32)) (0 : Int32) (0 : Int64)) (f4_o0 (p1 &&& (3 : Int32)) (0 : Int32) (0 : Int64)))) (f4_o0 (((p1.toUInt32 >>> ((4 : Int32) &&& 31).toUInt32).toInt32) &&& (3 : Int32)) (f0_v55 p1) (f4_o0 (((p1.toUInt32 >>> ((2 : Int32) &&& 31).toUInt32).toInt32) &&& (3 : Int32)) (f4 (p1 &&& (3 : Int32)) (0 : Int32) (0 : Int64)) (f4_o0 (p1 &&& (3 : Int32)) (0 : Int32) (0 : Int64)))))
def f0_s0_234_7 (p1 : Int32) (p2 : Int32) : Int32 := (if (f0_v71 p1) = (f0_v120 p2) then (1 : Int32) else (0 : Int32))
theorem own_f4 (op cur : Int32) (w : Int64) (k : Int) (h : 0 ≤ cur.toInt ∧ cur.toInt ≤ k) (hk : k ≤ 100) : (0 ≤ (f4 op cur w).toInt ∧ (f4 op cur w).toInt ≤ k + 1) ∧ (w.toInt = cur.toInt → (f4_o0 op cur w).toInt = (f4 op cur w).toInt) := by
  unfold f4 f4_o0 f5_o0 f6_o0
  have a1 := c_iadd cur 1
  have a2 := c_isub cur 1
  have a3 := c_ladd w 1
  have a4 := c_lsub w 1
  have r1 := rng32 (cur + 1)
  have r2 := rng32 (cur - 1)
  have r3 := rng64 (w + 1)
  have r4 := rng64 (w - 1)
  have e1 : (1 : Int32).toInt = 1 := rfl
  have e2 : (1 : Int64).toInt = 1 := rfl
  have e0 : (0 : Int32).toInt = 0 := rfl
  by_cases h0 : op = 0
  · simp only [if_pos h0]
    omega
  · by_cases h1 : op = 1
    · simp only [if_neg h0, if_pos h1]
      by_cases h2 : 0 < cur
      · simp only [if_pos h2]
        rw [Int32.lt_iff_toInt_lt] at h2
        omega
      · simp only [if_neg h2]
        omega
    · simp only [if_neg h0, if_neg h1, ite_self]
      omega
theorem own_v71 (p : Int32) : (0 ≤ (f0_v71 p).toInt ∧ (f0_v71 p).toInt ≤ 3) ∧ (f4_o0 (((p.toUInt32 >>> ((4 : Int32) &&& 31).toUInt32).toInt32) &&& (3 : Int32)) (f0_v55 p) (f4_o0 (((p.toUInt32 >>> ((2 : Int32) &&& 31).toUInt32).toInt32) &&& (3 : Int32)) (f4 (p &&& (3 : Int32)) (0 : Int32) (0 : Int64)) (f4_o0 (p &&& (3 : Int32)) (0 : Int32) (0 : Int64)))).toInt = (f0_v71 p).toInt := by
  have e0 : (0 : Int32).toInt = 0 := rfl
  have e00 : (0 : Int64).toInt = (0 : Int32).toInt := rfl
  have s1 := own_f4 (p &&& 3) 0 0 0 (by rw [e0]; omega) (by omega)
  have s2 := own_f4 (((p.toUInt32 >>> ((2 : Int32) &&& 31).toUInt32).toInt32) &&& (3 : Int32)) (f4 (p &&& (3 : Int32)) (0 : Int32) (0 : Int64)) (f4_o0 (p &&& (3 : Int32)) (0 : Int32) (0 : Int64)) 1 s1.1 (by omega)
  have s3 := own_f4 (((p.toUInt32 >>> ((4 : Int32) &&& 31).toUInt32).toInt32) &&& (3 : Int32)) (f0_v55 p) (f4_o0 (((p.toUInt32 >>> ((2 : Int32) &&& 31).toUInt32).toInt32) &&& (3 : Int32)) (f4 (p &&& (3 : Int32)) (0 : Int32) (0 : Int64)) (f4_o0 (p &&& (3 : Int32)) (0 : Int32) (0 : Int64))) 2 s2.1 (by omega)
  exact ⟨s3.1, s3.2 (s2.2 (s1.2 e00))⟩
theorem own_ca (p : Int32) : -128 ≤ ((f0_v71 p).toInt64).toInt ∧ ((f0_v71 p).toInt64).toInt ≤ 127 := by
  have h := (own_v71 p).1
  rw [c_i2l]; omega
def f0 (p1 : Int32) (p2 : Int32) (p3 : Int32) (p4 : Int32) (w_high : Int32) (z_w_ic : Int32) (z_w_lc : Int32) : Int32 := (if (p3 &&& (3 : Int32)) = (0 : Int32) then (if (f0_v202 p1 p2) = (f0_s0_148 p1 p2) then (if (f0_v211 p1 p2) = (f0_s0_234 p1 p2) then (1 : Int32) else (0 : Int32)) else (0 : Int32)) else (if (p3 &&& (3 : Int32)) = (1 : Int32) then (if f8n = (0 : Int32) then (if (f0_v211 p1 p2) = (f0_s0_234_4 p1 p2) then (1 : Int32) else (0 : Int32)) else (0 : Int32)) else (if (p3 &&& (3 : Int32)) = (2 : Int32) then (if f8l = (0 : Int32) then (if (f0_v211 p1 p2) = (f0_s0_234_5 p1 p2) then (1 : Int32) else (0 : Int32)) else (0 : Int32)) else (if (f0_v202_6 p1) = (1 : Int32) then (if (f0_v211 p1 p2) = (f0_s0_234_7 p1 p2) then (1 : Int32) else (0 : Int32)) else (0 : Int32)))))
def Q0 (Z : State) (p1 : Int32) (p2 : Int32) (p3 : Int32) (p4 : Int32) (w_high : Int32) (w_ic : Addr) (z_w_ic : Int32) (c_w_ic : Nat → Addr) (w_lc : Addr) (z_w_lc : Int32) (c_w_lc : Nat → Addr) (h0 : Heap) (n0 : Nat) (v : Option Value) (h : Heap) (L : List Loc) : Prop := v = some (.int (f0 p1 p2 p3 p4 w_high z_w_ic z_w_lc)) ∧ Fr n0 L ∧ True
set_option maxRecDepth 65536 in
set_option maxHeartbeats 40000000 in
theorem rm0 (l : Launch) (Z : State) (a0 : Array Value) (hw : ∀ d ∈ tables_1, d.before a0 Z = true) (ws : List Jvm.Cond) (p1 : Int32) (p2 : Int32) (p3 : Int32) (p4 : Int32) (w_high : Int32) (w_ic : Addr) (z_w_ic : Int32) (c_w_ic : Nat → Addr) (w_lc : Addr) (z_w_lc : Int32) (c_w_lc : Nat → Addr) (h0 : Heap) (n0 : Nat) (Z0 : n0 ≤ h0.size) (S_high : Sta Z h0 "java/lang/Integer$IntegerCache" "high" "I" (.int w_high)) (S_cache : Sta Z h0 "java/lang/Integer$IntegerCache" "cache" "[Ljava/lang/Integer;" (.ref w_ic)) (V_w_ic : RAr Z h0 w_ic (.object "java/lang/Integer") z_w_ic c_w_ic) (hhi : w_high = 127) (hz : z_w_ic = 256) (S_w_lc : Sta Z h0 "java/lang/Long$LongCache" "cache" "[Ljava/lang/Long;" (.ref w_lc)) (V_w_lc : RAr Z h0 w_lc (.object "java/lang/Long") z_w_lc c_w_lc) (hzl : z_w_lc = 256) (QE_c_w_lc : ∀ i : Nat, i < 256 → Exa Z h0 (c_w_lc i) "java/lang/Long") :
    MetFree l x (head1 (Jvm.Cond.code x code maxLocals ret :: ws) room_1) (fun a U => a = #[(.int p1), (.int p2), (.int p3), (.int p4)] ∧ Z.Warmed39 U.vm ∧ U.heap = h0) (fun _ _ _ _ _ => True) (fun _ U o U' => ∃ v L, o = .returned v ∧ Q0 Z p1 p2 p3 p4 w_high w_ic z_w_ic c_w_ic w_lc z_w_lc c_w_lc h0 n0 v U'.heap L ∧ FrameEnd U o U' L room_1.cells room_1.slots) := by
  refine MetFree.of_bodySF (plainFor_of_name pn_3) hisR ?_
  intro p e s m args below meth c s₁ Bd hml0 hP hK
  obtain ⟨rfl, hZ, hh⟩ := hP
  have hx := Bd.exec
  have hby := Bd.bytes
  have hml : c.maxLocals = 14 := hml0
  have hown : s.vm.findClass "com/example/millrace/millrace/runtime/aggregate/CountEqualsPinLaw" = some m.cls := findClass_of_methodNamed Bd.named
  have hnm := (name_of_methodNamed Bd.named Bd.method).1
  have X0 : Stand p l e room_1 s m #[(.int p1), (.int p2), (.int p3), (.int p4)] below meth c s₁ [] 0 0 := Stand.of_body Bd
  have e0 : s₁.heap = h0 := by rw [← hh, Bd.state]; rfl
  have N0 := Fr.nil n0
  have pre0 : ∀ t, Steps p.tables e below (s₁.setTop (mkF m 0 #[.val (.int p1), .val (.int p2), .val (.int p3), .val (.int p4), .unset, .unset, .unset, .unset, .unset, .unset, .unset, .unset, .unset, .unset] [])) t → Steps p.tables e below (s₁.setTop (entryFrame m #[(.int p1), (.int p2), (.int p3), (.int p4)] maxLocals)) t := fun t k => castTop (ef_0 m p1 p2 p3 p4) k
  obtain ⟨_, _, ⟨T5, L5, k5, n5⟩, -, X5, ⟨Lc5, hQ5, l5, y5, z5⟩, st5⟩ := Jvm.LawKit.callS X0 hx (y := (⟨"java/lang/Integer", "valueOf", "(I)Ljava/lang/Integer;"⟩ : MethodName)) hown (mvT hZ (hw _ (List.mem_of_getElem? (i := 0) rfl))) (mvT hZ (hw _ (List.mem_of_getElem? (i := 1) rfl))) (mvT hZ (hw _ (List.mem_of_getElem? (i := 2) rfl))) (mvT hZ (hw _ (List.mem_of_getElem? (i := 3) rfl))) (by decide) (backOf (W := 0) (rm1 l Z a0 hw [] p4 w_high w_ic z_w_ic c_w_ic h0 n0 Z0 S_high S_cache V_w_ic hhi hz) hZ (hw _ (List.mem_of_getElem? (i := 3) rfl)) (hw _ (List.mem_of_getElem? (i := 2) rfl)) (by decide) (by decide)) (g := (mkF m 1 #[.val (.int p1), .val (.int p2), .val (.int p3), .val (.int p4), .unset, .unset, .unset, .unset, .unset, .unset, .unset, .unset, .unset, .unset] [(.int p4)])) rfl (by rw [hml]; rfl) (argsL := [(.int p4)]) (rest := []) (lenOf pd_3 rfl) rfl (by show 2 * 0 + _ ≤ _; exact Nat.le_of_eq rfl) (hb hby at_1) (fun _ _ => ⟨rfl, e0, (by decide : 0 + 1 ≤ _), (by decide : 0 + 1 ≤ _)⟩)
  dsimp only [Pt.U, Pt.locs, Pt.cells, Pt.slots] at X5 l5 y5 z5 st5 hQ5
  subst l5 y5 z5
  obtain ⟨⟨r5, rfl⟩, N5q, K5⟩ := hQ5
  have N5 := Fr.app N0 N5q
  have c6 : n0 ≤ T5.heap.size := Nat.le_trans Z0 K5.1
  have c7 : Sta Z T5.heap "java/lang/Integer$IntegerCache" "high" "I" (.int w_high) := own_staK0 S_high K5
  have c8 : Sta Z T5.heap "java/lang/Integer$IntegerCache" "cache" "[Ljava/lang/Integer;" (.ref w_ic) := own_staK0 S_cache K5
  have c9 : RAr Z T5.heap w_ic (.object "java/lang/Integer") z_w_ic c_w_ic := V_w_ic.keep K5 nin0
  have c10 : Sta Z T5.heap "java/lang/Long$LongCache" "cache" "[Ljava/lang/Long;" (.ref w_lc) := own_staK0 S_w_lc K5
  have c11 : RAr Z T5.heap w_lc (.object "java/lang/Long") z_w_lc c_w_lc := V_w_lc.keep K5 nin0
  have c12 : ∀ i : Nat, i < 256 → Exa Z T5.heap (c_w_lc i) "java/lang/Long" := fun i hi => (QE_c_w_lc i hi).keep K5
  obtain ⟨T13, h13, X13, e13, E13, A13, D13, -, st13⟩ := newO X5 hx hZ hown (hw _ (List.mem_of_getElem? (i := 7) rfl)) (hw _ (List.mem_of_getElem? (i := 8) rfl)) (hw _ (List.mem_of_getElem? (i := 9) rfl)) rfl (g := (mkF m 6 #[.val (.int p1), .val (.int p2), .val (.int p3), .val (.int p4), .val (.ref r5), .unset, .unset, .unset, .unset, .unset, .unset, .unset, .unset, .unset] [])) rfl (hb hby at_6) (by decide) (by decide)
  obtain ⟨b13, g13⟩ : ∃ z, z = T5.heap.size := ⟨_, rfl⟩
  rw [← g13] at A13 D13 st13
  have ne_w_ic_b13 : w_ic ≠ b13 := Nat.ne_of_lt (Nat.lt_of_lt_of_le c9.lt (Nat.le_of_eq g13.symm))
  have ne_w_lc_b13 : w_lc ≠ b13 := Nat.ne_of_lt (Nat.lt_of_lt_of_le c11.lt (Nat.le_of_eq g13.symm))
  have g_b13 : n0 ≤ b13 := Nat.le_trans c6 (Nat.le_of_eq g13.symm)
  have c14 : n0 ≤ h13.size := Nat.le_trans c6 E13.1
  have c15 : Sta Z h13 "java/lang/Integer$IntegerCache" "high" "I" (.int w_high) := c7.ext E13
  have c16 : Sta Z h13 "java/lang/Integer$IntegerCache" "cache" "[Ljava/lang/Integer;" (.ref w_ic) := c8.ext E13
  have c17 : RAr Z h13 w_ic (.object "java/lang/Integer") z_w_ic c_w_ic := c9.ext E13
  have c18 : Sta Z h13 "java/lang/Long$LongCache" "cache" "[Ljava/lang/Long;" (.ref w_lc) := c10.ext E13
  have c19 : RAr Z h13 w_lc (.object "java/lang/Long") z_w_lc c_w_lc := c11.ext E13
  have c20 : ∀ i : Nat, i < 256 → Exa Z h13 (c_w_lc i) "java/lang/Long" := fun i hi => (c12 i hi).ext E13
  have c21 : Fld Z h13 b13 "com/example/millrace/millrace/runtime/aggregate/Count" "count" "J" (.long (0 : Int64)) := D13 (Or.inl (hw _ (List.mem_of_getElem? (i := 26) rfl))) (ty := .long) (by decide)
  obtain ⟨_, _, ⟨T22, L22, k22, n22⟩, -, X22, ⟨Lc22, hQ22, l22, y22, z22⟩, st22⟩ := X13.specialBack hx (y := (⟨"com/example/millrace/millrace/runtime/aggregate/Count", "<init>", "()V"⟩ : MethodName)) rfl hown (mvT hZ (hw _ (List.mem_of_getElem? (i := 10) rfl))) (mvT hZ (hw _ (List.mem_of_getElem? (i := 11) rfl))) (mvT hZ (hw _ (List.mem_of_getElem? (i := 12) rfl))) (by decide) (backOf (W := 1) (rm2 l Z a0 hw [] b13 h13 n0 c14 ) hZ (hw _ (List.mem_of_getElem? (i := 12) rfl)) (hw _ (List.mem_of_getElem? (i := 9) rfl)) (by decide) (by decide)) (g := (mkF m 10 #[.val (.int p1), .val (.int p2), .val (.int p3), .val (.int p4), .val (.ref r5), .unset, .unset, .unset, .unset, .unset, .unset, .unset, .unset, .unset] [(.ref b13), (.ref b13)])) rfl (by rw [hml]; rfl) (Steps.refl _) (a := b13) (argsL := []) (rest := [(.ref b13)]) (lenOf pd_0 rfl) rfl (by show 2 * 0 + _ ≤ _; exact Nat.le_of_eq rfl) (hb hby at_10) (fun _ _ => ⟨rfl, e13, (by decide : 2 + 0 ≤ _), (by decide : 2 + 0 ≤ _)⟩)
  dsimp only [Pt.U, Pt.locs, Pt.cells, Pt.slots] at X22 l22 y22 z22 st22 hQ22
  subst l22 y22 z22
  obtain ⟨rfl, N22q, e22⟩ := hQ22
  have N22 := Fr.app N5 N22q
  obtain ⟨T23, h23, X23, e23, E23, A23, D23, -, st23⟩ := newO X22 hx hZ hown (hw _ (List.mem_of_getElem? (i := 7) rfl)) (hw _ (List.mem_of_getElem? (i := 8) rfl)) (hw _ (List.mem_of_getElem? (i := 9) rfl)) e22 (g := (mkF m 15 #[.val (.int p1), .val (.int p2), .val (.int p3), .val (.int p4), .val (.ref r5), .val (.ref b13), .unset, .unset, .unset, .unset, .unset, .unset, .unset, .unset] [])) rfl (hb hby at_15) (by decide) (by decide)
  obtain ⟨b23, g23⟩ : ∃ z, z = h13.size := ⟨_, rfl⟩
  rw [← g23] at A23 D23 st23
  have ne_w_ic_b23 : w_ic ≠ b23 := Nat.ne_of_lt (Nat.lt_of_lt_of_le c17.lt (Nat.le_of_eq g23.symm))
  have ne_w_lc_b23 : w_lc ≠ b23 := Nat.ne_of_lt (Nat.lt_of_lt_of_le c19.lt (Nat.le_of_eq g23.symm))
  have ne_b13_b23 : b13 ≠ b23 := Nat.ne_of_lt (Nat.lt_of_lt_of_le A13.lt (Nat.le_of_eq g23.symm))
  have g_b23 : n0 ≤ b23 := Nat.le_trans c14 (Nat.le_of_eq g23.symm)
  have c24 : n0 ≤ h23.size := Nat.le_trans c14 E23.1
  have c25 : Sta Z h23 "java/lang/Integer$IntegerCache" "high" "I" (.int w_high) := c15.ext E23
  have c26 : Sta Z h23 "java/lang/Integer$IntegerCache" "cache" "[Ljava/lang/Integer;" (.ref w_ic) := c16.ext E23
  have c27 : RAr Z h23 w_ic (.object "java/lang/Integer") z_w_ic c_w_ic := c17.ext E23
  have c28 : Sta Z h23 "java/lang/Long$LongCache" "cache" "[Ljava/lang/Long;" (.ref w_lc) := c18.ext E23
  have c29 : RAr Z h23 w_lc (.object "java/lang/Long") z_w_lc c_w_lc := c19.ext E23
  have c30 : ∀ i : Nat, i < 256 → Exa Z h23 (c_w_lc i) "java/lang/Long" := fun i hi => (c20 i hi).ext E23
  have c31 : Exa Z h23 b13 "com/example/millrace/millrace/runtime/aggregate/Count" := A13.ext E23
  have c32 : Fld Z h23 b13 "com/example/millrace/millrace/runtime/aggregate/Count" "count" "J" (.long (0 : Int64)) := c21.ext E23
  have c33 : Fld Z h23 b23 "com/example/millrace/millrace/runtime/aggregate/Count" "count" "J" (.long (0 : Int64)) := D23 (Or.inl (hw _ (List.mem_of_getElem? (i := 26) rfl))) (ty := .long) (by decide)
  obtain ⟨_, _, ⟨T34, L34, k34, n34⟩, -, X34, ⟨Lc34, hQ34, l34, y34, z34⟩, st34⟩ := X23.specialBack hx (y := (⟨"com/example/millrace/millrace/runtime/aggregate/Count", "<init>", "()V"⟩ : MethodName)) rfl hown (mvT hZ (hw _ (List.mem_of_getElem? (i := 10) rfl))) (mvT hZ (hw _ (List.mem_of_getElem? (i := 11) rfl))) (mvT hZ (hw _ (List.mem_of_getElem? (i := 12) rfl))) (by decide) (backOf (W := 1) (rm2 l Z a0 hw [] b23 h23 n0 c24 ) hZ (hw _ (List.mem_of_getElem? (i := 12) rfl)) (hw _ (List.mem_of_getElem? (i := 9) rfl)) (by decide) (by decide)) (g := (mkF m 19 #[.val (.int p1), .val (.int p2), .val (.int p3), .val (.int p4), .val (.ref r5), .val (.ref b13), .unset, .unset, .unset, .unset, .unset, .unset, .unset, .unset] [(.ref b23), (.ref b23)])) rfl (by rw [hml]; rfl) (Steps.refl _) (a := b23) (argsL := []) (rest := [(.ref b23)]) (lenOf pd_0 rfl) rfl (by show 2 * 0 + _ ≤ _; exact Nat.le_of_eq rfl) (hb hby at_19) (fun _ _ => ⟨rfl, e23, (by decide : 3 + 0 ≤ _), (by decide : 3 + 0 ≤ _)⟩)
  dsimp only [Pt.U, Pt.locs, Pt.cells, Pt.slots] at X34 l34 y34 z34 st34 hQ34
  subst l34 y34 z34
  obtain ⟨rfl, N34q, e34⟩ := hQ34
  have N34 := Fr.app N22 N34q
  obtain ⟨_, _, ⟨T35, L35, k35, n35⟩, -, X35, ⟨Lc35, hQ35, l35, y35, z35⟩, st35⟩ := Jvm.LawKit.callS X34 hx (y := (⟨"com/example/millrace/millrace/runtime/aggregate/CountEqualsPinLaw", "step", "(Lcom/example/millrace/millrace/runtime/aggregate/Count;ILjava/lang/Object;I)I"⟩ : MethodName)) hown (mvT hZ (hw _ (List.mem_of_getElem? (i := 16) rfl))) (mvT hZ (hw _ (List.mem_of_getElem? (i := 17) rfl))) (mvT hZ (hw _ (List.mem_of_getElem? (i := 18) rfl))) (mvT hZ (hw _ (List.mem_of_getElem? (i := 19) rfl))) (by decide) (backOf (W := 0) (rm4 l Z a0 hw [] b13 (p1 &&& (3 : Int32)) r5 (0 : Int32) (0 : Int64) h23 n0 c24 c32 c31 g_b13) hZ (hw _ (List.mem_of_getElem? (i := 19) rfl)) (hw _ (List.mem_of_getElem? (i := 18) rfl)) (by decide) (by decide)) (g := (mkF m 36 #[.val (.int p1), .val (.int p2), .val (.int p3), .val (.int p4), .val (.ref r5), .val (.ref b13), .val (.ref b23), .val (.int (0 : Int32)), .unset, .unset, .unset, .unset, .unset, .unset] [(.int (0 : Int32)), (.ref r5), (.int (p1 &&& (3 : Int32))), (.ref b13)])) rfl (by rw [hml]; rfl) (argsL := [(.ref b13), (.int (p1 &&& (3 : Int32))), (.ref r5), (.int (0 : Int32))]) (rest := []) (lenOf pd_4 rfl) rfl (by show 2 * 0 + _ ≤ _; exact Nat.le_of_eq rfl) (hb hby at_36) (fun _ _ => ⟨rfl, e34, (by decide : 3 + 0 ≤ _), (by decide : 3 + 0 ≤ _)⟩)
  dsimp only [Pt.U, Pt.locs, Pt.cells, Pt.slots] at X35 l35 y35 z35 st35 hQ35
  subst l35 y35 z35
  obtain ⟨rfl, N35q, K35, o35_0⟩ := hQ35
  have N35 := Fr.app N34 N35q
  have c36 : n0 ≤ T35.heap.size := Nat.le_trans c24 K35.1
  have c37 : Sta Z T35.heap "java/lang/Integer$IntegerCache" "high" "I" (.int w_high) := own_staK1 c25 K35 c31
  have c38 : Sta Z T35.heap "java/lang/Integer$IntegerCache" "cache" "[Ljava/lang/Integer;" (.ref w_ic) := own_staK1 c26 K35 c31
  have c39 : RAr Z T35.heap w_ic (.object "java/lang/Integer") z_w_ic c_w_ic := c27.keep K35 (ninS ne_w_ic_b13 nin0)
  have c40 : Sta Z T35.heap "java/lang/Long$LongCache" "cache" "[Ljava/lang/Long;" (.ref w_lc) := own_staK1 c28 K35 c31
  have c41 : RAr Z T35.heap w_lc (.object "java/lang/Long") z_w_lc c_w_lc := c29.keep K35 (ninS ne_w_lc_b13 nin0)
  have c42 : ∀ i : Nat, i < 256 → Exa Z T35.heap (c_w_lc i) "java/lang/Long" := fun i hi => (c30 i hi).keep K35
  have c43 : Exa Z T35.heap b13 "com/example/millrace/millrace/runtime/aggregate/Count" := c31.keep K35
  have c44 : Fld Z T35.heap b13 "com/example/millrace/millrace/runtime/aggregate/Count" "count" "J" (.long (f4_o0 (p1 &&& (3 : Int32)) (0 : Int32) (0 : Int64))) := o35_0
  have c45 : Exa Z T35.heap b23 "com/example/millrace/millrace/runtime/aggregate/Count" := A23.keep K35
  have c46 : Fld Z T35.heap b23 "com/example/millrace/millrace/runtime/aggregate/Count" "count" "J" (.long (0 : Int64)) := c33.keep K35 (ninS (Ne.symm ne_b13_b23) nin0)
  obtain ⟨_, _, ⟨T47, L47, k47, n47⟩, -, X47, ⟨Lc47, hQ47, l47, y47, z47⟩, st47⟩ := Jvm.LawKit.callS X35 hx (y := (⟨"com/example/millrace/millrace/runtime/aggregate/CountEqualsPinLaw", "step", "(Lcom/example/millrace/millrace/runtime/aggregate/Count;ILjava/lang/Object;I)I"⟩ : MethodName)) hown (mvT hZ (hw _ (List.mem_of_getElem? (i := 16) rfl))) (mvT hZ (hw _ (List.mem_of_getElem? (i := 17) rfl))) (mvT hZ (hw _ (List.mem_of_getElem? (i := 18) rfl))) (mvT hZ (hw _ (List.mem_of_getElem? (i := 19) rfl))) (by decide) (backOf (W := 0) (rm4 l Z a0 hw [] b13 (((p1.toUInt32 >>> ((2 : Int32) &&& 31).toUInt32).toInt32) &&& (3 : Int32)) r5 (f4 (p1 &&& (3 : Int32)) (0 : Int32) (0 : Int64)) (f4_o0 (p1 &&& (3 : Int32)) (0 : Int32) (0 : Int64)) T35.heap n0 c36 c44 c43 g_b13) hZ (hw _ (List.mem_of_getElem? (i := 19) rfl)) (hw _ (List.mem_of_getElem? (i := 18) rfl)) (by decide) (by decide)) (g := (mkF m 52 #[.val (.int p1), .val (.int p2), .val (.int p3), .val (.int p4), .val (.ref r5), .val (.ref b13), .val (.ref b23), .val (.int (f4 (p1 &&& (3 : Int32)) (0 : Int32) (0 : Int64))), .unset, .unset, .unset, .unset, .unset, .unset] [(.int (f4 (p1 &&& (3 : Int32)) (0 : Int32) (0 : Int64))), (.ref r5), (.int (((p1.toUInt32 >>> ((2 : Int32) &&& 31).toUInt32).toInt32) &&& (3 : Int32))), (.ref b13)])) rfl (by rw [hml]; rfl) (argsL := [(.ref b13), (.int (((p1.toUInt32 >>> ((2 : Int32) &&& 31).toUInt32).toInt32) &&& (3 : Int32))), (.ref r5), (.int (f4 (p1 &&& (3 : Int32)) (0 : Int32) (0 : Int64)))]) (rest := []) (lenOf pd_4 rfl) rfl (by show 2 * 0 + _ ≤ _; exact Nat.le_of_eq rfl) (hb hby at_52) (fun _ _ => ⟨rfl, rfl, (by decide : 3 + 0 ≤ _), (by decide : 3 + 0 ≤ _)⟩)
  dsimp only [Pt.U, Pt.locs, Pt.cells, Pt.slots] at X47 l47 y47 z47 st47 hQ47
  subst l47 y47 z47
  obtain ⟨rfl, N47q, K47, o47_0⟩ := hQ47
  have N47 := Fr.app N35 N47q
  have c48 : n0 ≤ T47.heap.size := Nat.le_trans c36 K47.1
  have c49 : Sta Z T47.heap "java/lang/Integer$IntegerCache" "high" "I" (.int w_high) := own_staK1 c37 K47 c43
  have c50 : Sta Z T47.heap "java/lang/Integer$IntegerCache" "cache" "[Ljava/lang/Integer;" (.ref w_ic) := own_staK1 c38 K47 c43
  have c51 : RAr Z T47.heap w_ic (.object "java/lang/Integer") z_w_ic c_w_ic := c39.keep K47 (ninS ne_w_ic_b13 nin0)
  have c52 : Sta Z T47.heap "java/lang/Long$LongCache" "cache" "[Ljava/lang/Long;" (.ref w_lc) := own_staK1 c40 K47 c43
  have c53 : RAr Z T47.heap w_lc (.object "java/lang/Long") z_w_lc c_w_lc := c41.keep K47 (ninS ne_w_lc_b13 nin0)
  have c54 : ∀ i : Nat, i < 256 → Exa Z T47.heap (c_w_lc i) "java/lang/Long" := fun i hi => (c42 i hi).keep K47
  have c55 : Exa Z T47.heap b13 "com/example/millrace/millrace/runtime/aggregate/Count" := c43.keep K47
  have c56 : Fld Z T47.heap b13 "com/example/millrace/millrace/runtime/aggregate/Count" "count" "J" (.long (f4_o0 (((p1.toUInt32 >>> ((2 : Int32) &&& 31).toUInt32).toInt32) &&& (3 : Int32)) (f4 (p1 &&& (3 : Int32)) (0 : Int32) (0 : Int64)) (f4_o0 (p1 &&& (3 : Int32)) (0 : Int32) (0 : Int64)))) := o47_0
  have c57 : Exa Z T47.heap b23 "com/example/millrace/millrace/runtime/aggregate/Count" := c45.keep K47
  have c58 : Fld Z T47.heap b23 "com/example/millrace/millrace/runtime/aggregate/Count" "count" "J" (.long (0 : Int64)) := c46.keep K47 (ninS (Ne.symm ne_b13_b23) nin0)
  obtain ⟨_, _, ⟨T59, L59, k59, n59⟩, -, X59, ⟨Lc59, hQ59, l59, y59, z59⟩, st59⟩ := Jvm.LawKit.callS X47 hx (y := (⟨"com/example/millrace/millrace/runtime/aggregate/CountEqualsPinLaw", "step", "(Lcom/example/millrace/millrace/runtime/aggregate/Count;ILjava/lang/Object;I)I"⟩ : MethodName)) hown (mvT hZ (hw _ (List.mem_of_getElem? (i := 16) rfl))) (mvT hZ (hw _ (List.mem_of_getElem? (i := 17) rfl))) (mvT hZ (hw _ (List.mem_of_getElem? (i := 18) rfl))) (mvT hZ (hw _ (List.mem_of_getElem? (i := 19) rfl))) (by decide) (backOf (W := 0) (rm4 l Z a0 hw [] b13 (((p1.toUInt32 >>> ((4 : Int32) &&& 31).toUInt32).toInt32) &&& (3 : Int32)) r5 (f0_v55 p1) (f4_o0 (((p1.toUInt32 >>> ((2 : Int32) &&& 31).toUInt32).toInt32) &&& (3 : Int32)) (f4 (p1 &&& (3 : Int32)) (0 : Int32) (0 : Int64)) (f4_o0 (p1 &&& (3 : Int32)) (0 : Int32) (0 : Int64))) T47.heap n0 c48 c56 c55 g_b13) hZ (hw _ (List.mem_of_getElem? (i := 19) rfl)) (hw _ (List.mem_of_getElem? (i := 18) rfl)) (by decide) (by decide)) (g := (mkF m 68 #[.val (.int p1), .val (.int p2), .val (.int p3), .val (.int p4), .val (.ref r5), .val (.ref b13), .val (.ref b23), .val (.int (f0_v55 p1)), .unset, .unset, .unset, .unset, .unset, .unset] [(.int (f0_v55 p1)), (.ref r5), (.int (((p1.toUInt32 >>> ((4 : Int32) &&& 31).toUInt32).toInt32) &&& (3 : Int32))), (.ref b13)])) rfl (by rw [hml]; rfl) (argsL := [(.ref b13), (.int (((p1.toUInt32 >>> ((4 : Int32) &&& 31).toUInt32).toInt32) &&& (3 : Int32))), (.ref r5), (.int (f0_v55 p1))]) (rest := []) (lenOf pd_4 rfl) rfl (by show 2 * 0 + _ ≤ _; exact Nat.le_of_eq rfl) (hb hby at_68) (fun _ _ => ⟨rfl, rfl, (by decide : 3 + 0 ≤ _), (by decide : 3 + 0 ≤ _)⟩)
  dsimp only [Pt.U, Pt.locs, Pt.cells, Pt.slots] at X59 l59 y59 z59 st59 hQ59
  subst l59 y59 z59
  obtain ⟨rfl, N59q, K59, o59_0⟩ := hQ59
  have N59 := Fr.app N47 N59q
  have c60 : n0 ≤ T59.heap.size := Nat.le_trans c48 K59.1
  have c61 : Sta Z T59.heap "java/lang/Integer$IntegerCache" "high" "I" (.int w_high) := own_staK1 c49 K59 c55
  have c62 : Sta Z T59.heap "java/lang/Integer$IntegerCache" "cache" "[Ljava/lang/Integer;" (.ref w_ic) := own_staK1 c50 K59 c55
  have c63 : RAr Z T59.heap w_ic (.object "java/lang/Integer") z_w_ic c_w_ic := c51.keep K59 (ninS ne_w_ic_b13 nin0)
  have c64 : Sta Z T59.heap "java/lang/Long$LongCache" "cache" "[Ljava/lang/Long;" (.ref w_lc) := own_staK1 c52 K59 c55
  have c65 : RAr Z T59.heap w_lc (.object "java/lang/Long") z_w_lc c_w_lc := c53.keep K59 (ninS ne_w_lc_b13 nin0)
  have c66 : ∀ i : Nat, i < 256 → Exa Z T59.heap (c_w_lc i) "java/lang/Long" := fun i hi => (c54 i hi).keep K59
  have c67 : Exa Z T59.heap b13 "com/example/millrace/millrace/runtime/aggregate/Count" := c55.keep K59
  have c68 : Fld Z T59.heap b13 "com/example/millrace/millrace/runtime/aggregate/Count" "count" "J" (.long (f4_o0 (((p1.toUInt32 >>> ((4 : Int32) &&& 31).toUInt32).toInt32) &&& (3 : Int32)) (f0_v55 p1) (f4_o0 (((p1.toUInt32 >>> ((2 : Int32) &&& 31).toUInt32).toInt32) &&& (3 : Int32)) (f4 (p1 &&& (3 : Int32)) (0 : Int32) (0 : Int64)) (f4_o0 (p1 &&& (3 : Int32)) (0 : Int32) (0 : Int64))))) := o59_0
  have c69 : Exa Z T59.heap b23 "com/example/millrace/millrace/runtime/aggregate/Count" := c57.keep K59
  have c70 : Fld Z T59.heap b23 "com/example/millrace/millrace/runtime/aggregate/Count" "count" "J" (.long (0 : Int64)) := c58.keep K59 (ninS (Ne.symm ne_b13_b23) nin0)
  obtain ⟨_, _, ⟨T71, L71, k71, n71⟩, -, X71, ⟨Lc71, hQ71, l71, y71, z71⟩, st71⟩ := Jvm.LawKit.callS X59 hx (y := (⟨"com/example/millrace/millrace/runtime/aggregate/CountEqualsPinLaw", "step", "(Lcom/example/millrace/millrace/runtime/aggregate/Count;ILjava/lang/Object;I)I"⟩ : MethodName)) hown (mvT hZ (hw _ (List.mem_of_getElem? (i := 16) rfl))) (mvT hZ (hw _ (List.mem_of_getElem? (i := 17) rfl))) (mvT hZ (hw _ (List.mem_of_getElem? (i := 18) rfl))) (mvT hZ (hw _ (List.mem_of_getElem? (i := 19) rfl))) (by decide) (backOf (W := 0) (rm4 l Z a0 hw [] b23 (p2 &&& (3 : Int32)) r5 (0 : Int32) (0 : Int64) T59.heap n0 c60 c70 c69 g_b23) hZ (hw _ (List.mem_of_getElem? (i := 19) rfl)) (hw _ (List.mem_of_getElem? (i := 18) rfl)) (by decide) (by decide)) (g := (mkF m 85 #[.val (.int p1), .val (.int p2), .val (.int p3), .val (.int p4), .val (.ref r5), .val (.ref b13), .val (.ref b23), .val (.int (f0_v71 p1)), .val (.int (0 : Int32)), .unset, .unset, .unset, .unset, .unset] [(.int (0 : Int32)), (.ref r5), (.int (p2 &&& (3 : Int32))), (.ref b23)])) rfl (by rw [hml]; rfl) (argsL := [(.ref b23), (.int (p2 &&& (3 : Int32))), (.ref r5), (.int (0 : Int32))]) (rest := []) (lenOf pd_4 rfl) rfl (by show 2 * 0 + _ ≤ _; exact Nat.le_of_eq rfl) (hb hby at_85) (fun _ _ => ⟨rfl, rfl, (by decide : 3 + 0 ≤ _), (by decide : 3 + 0 ≤ _)⟩)
  dsimp only [Pt.U, Pt.locs, Pt.cells, Pt.slots] at X71 l71 y71 z71 st71 hQ71
  subst l71 y71 z71
  obtain ⟨rfl, N71q, K71, o71_0⟩ := hQ71
  have N71 := Fr.app N59 N71q
  have c72 : n0 ≤ T71.heap.size := Nat.le_trans c60 K71.1
  have c73 : Sta Z T71.heap "java/lang/Integer$IntegerCache" "high" "I" (.int w_high) := own_staK1 c61 K71 c69
  have c74 : Sta Z T71.heap "java/lang/Integer$IntegerCache" "cache" "[Ljava/lang/Integer;" (.ref w_ic) := own_staK1 c62 K71 c69
  have c75 : RAr Z T71.heap w_ic (.object "java/lang/Integer") z_w_ic c_w_ic := c63.keep K71 (ninS ne_w_ic_b23 nin0)
  have c76 : Sta Z T71.heap "java/lang/Long$LongCache" "cache" "[Ljava/lang/Long;" (.ref w_lc) := own_staK1 c64 K71 c69
  have c77 : RAr Z T71.heap w_lc (.object "java/lang/Long") z_w_lc c_w_lc := c65.keep K71 (ninS ne_w_lc_b23 nin0)
  have c78 : ∀ i : Nat, i < 256 → Exa Z T71.heap (c_w_lc i) "java/lang/Long" := fun i hi => (c66 i hi).keep K71
  have c79 : Exa Z T71.heap b13 "com/example/millrace/millrace/runtime/aggregate/Count" := c67.keep K71
  have c80 : Fld Z T71.heap b13 "com/example/millrace/millrace/runtime/aggregate/Count" "count" "J" (.long (f4_o0 (((p1.toUInt32 >>> ((4 : Int32) &&& 31).toUInt32).toInt32) &&& (3 : Int32)) (f0_v55 p1) (f4_o0 (((p1.toUInt32 >>> ((2 : Int32) &&& 31).toUInt32).toInt32) &&& (3 : Int32)) (f4 (p1 &&& (3 : Int32)) (0 : Int32) (0 : Int64)) (f4_o0 (p1 &&& (3 : Int32)) (0 : Int32) (0 : Int64))))) := c68.keep K71 (ninS ne_b13_b23 nin0)
  have c81 : Exa Z T71.heap b23 "com/example/millrace/millrace/runtime/aggregate/Count" := c69.keep K71
  have c82 : Fld Z T71.heap b23 "com/example/millrace/millrace/runtime/aggregate/Count" "count" "J" (.long (f4_o0 (p2 &&& (3 : Int32)) (0 : Int32) (0 : Int64))) := o71_0
  obtain ⟨_, _, ⟨T83, L83, k83, n83⟩, -, X83, ⟨Lc83, hQ83, l83, y83, z83⟩, st83⟩ := Jvm.LawKit.callS X71 hx (y := (⟨"com/example/millrace/millrace/runtime/aggregate/CountEqualsPinLaw", "step", "(Lcom/example/millrace/millrace/runtime/aggregate/Count;ILjava/lang/Object;I)I"⟩ : MethodName)) hown (mvT hZ (hw _ (List.mem_of_getElem? (i := 16) rfl))) (mvT hZ (hw _ (List.mem_of_getElem? (i := 17) rfl))) (mvT hZ (hw _ (List.mem_of_getElem? (i := 18) rfl))) (mvT hZ (hw _ (List.mem_of_getElem? (i := 19) rfl))) (by decide) (backOf (W := 0) (rm4 l Z a0 hw [] b23 (((p2.toUInt32 >>> ((2 : Int32) &&& 31).toUInt32).toInt32) &&& (3 : Int32)) r5 (f4 (p2 &&& (3 : Int32)) (0 : Int32) (0 : Int64)) (f4_o0 (p2 &&& (3 : Int32)) (0 : Int32) (0 : Int64)) T71.heap n0 c72 c82 c81 g_b23) hZ (hw _ (List.mem_of_getElem? (i := 19) rfl)) (hw _ (List.mem_of_getElem? (i := 18) rfl)) (by decide) (by decide)) (g := (mkF m 101 #[.val (.int p1), .val (.int p2), .val (.int p3), .val (.int p4), .val (.ref r5), .val (.ref b13), .val (.ref b23), .val (.int (f0_v71 p1)), .val (.int (f4 (p2 &&& (3 : Int32)) (0 : Int32) (0 : Int64))), .unset, .unset, .unset, .unset, .unset] [(.int (f4 (p2 &&& (3 : Int32)) (0 : Int32) (0 : Int64))), (.ref r5), (.int (((p2.toUInt32 >>> ((2 : Int32) &&& 31).toUInt32).toInt32) &&& (3 : Int32))), (.ref b23)])) rfl (by rw [hml]; rfl) (argsL := [(.ref b23), (.int (((p2.toUInt32 >>> ((2 : Int32) &&& 31).toUInt32).toInt32) &&& (3 : Int32))), (.ref r5), (.int (f4 (p2 &&& (3 : Int32)) (0 : Int32) (0 : Int64)))]) (rest := []) (lenOf pd_4 rfl) rfl (by show 2 * 0 + _ ≤ _; exact Nat.le_of_eq rfl) (hb hby at_101) (fun _ _ => ⟨rfl, rfl, (by decide : 3 + 0 ≤ _), (by decide : 3 + 0 ≤ _)⟩)
  dsimp only [Pt.U, Pt.locs, Pt.cells, Pt.slots] at X83 l83 y83 z83 st83 hQ83
  subst l83 y83 z83
  obtain ⟨rfl, N83q, K83, o83_0⟩ := hQ83
  have N83 := Fr.app N71 N83q
  have c84 : n0 ≤ T83.heap.size := Nat.le_trans c72 K83.1
  have c85 : Sta Z T83.heap "java/lang/Integer$IntegerCache" "high" "I" (.int w_high) := own_staK1 c73 K83 c81
  have c86 : Sta Z T83.heap "java/lang/Integer$IntegerCache" "cache" "[Ljava/lang/Integer;" (.ref w_ic) := own_staK1 c74 K83 c81
  have c87 : RAr Z T83.heap w_ic (.object "java/lang/Integer") z_w_ic c_w_ic := c75.keep K83 (ninS ne_w_ic_b23 nin0)
  have c88 : Sta Z T83.heap "java/lang/Long$LongCache" "cache" "[Ljava/lang/Long;" (.ref w_lc) := own_staK1 c76 K83 c81
  have c89 : RAr Z T83.heap w_lc (.object "java/lang/Long") z_w_lc c_w_lc := c77.keep K83 (ninS ne_w_lc_b23 nin0)
  have c90 : ∀ i : Nat, i < 256 → Exa Z T83.heap (c_w_lc i) "java/lang/Long" := fun i hi => (c78 i hi).keep K83
  have c91 : Exa Z T83.heap b13 "com/example/millrace/millrace/runtime/aggregate/Count" := c79.keep K83
  have c92 : Fld Z T83.heap b13 "com/example/millrace/millrace/runtime/aggregate/Count" "count" "J" (.long (f4_o0 (((p1.toUInt32 >>> ((4 : Int32) &&& 31).toUInt32).toInt32) &&& (3 : Int32)) (f0_v55 p1) (f4_o0 (((p1.toUInt32 >>> ((2 : Int32) &&& 31).toUInt32).toInt32) &&& (3 : Int32)) (f4 (p1 &&& (3 : Int32)) (0 : Int32) (0 : Int64)) (f4_o0 (p1 &&& (3 : Int32)) (0 : Int32) (0 : Int64))))) := c80.keep K83 (ninS ne_b13_b23 nin0)
  have c93 : Exa Z T83.heap b23 "com/example/millrace/millrace/runtime/aggregate/Count" := c81.keep K83
  have c94 : Fld Z T83.heap b23 "com/example/millrace/millrace/runtime/aggregate/Count" "count" "J" (.long (f4_o0 (((p2.toUInt32 >>> ((2 : Int32) &&& 31).toUInt32).toInt32) &&& (3 : Int32)) (f4 (p2 &&& (3 : Int32)) (0 : Int32) (0 : Int64)) (f4_o0 (p2 &&& (3 : Int32)) (0 : Int32) (0 : Int64)))) := o83_0
  obtain ⟨_, _, ⟨T95, L95, k95, n95⟩, -, X95, ⟨Lc95, hQ95, l95, y95, z95⟩, st95⟩ := Jvm.LawKit.callS X83 hx (y := (⟨"com/example/millrace/millrace/runtime/aggregate/CountEqualsPinLaw", "step", "(Lcom/example/millrace/millrace/runtime/aggregate/Count;ILjava/lang/Object;I)I"⟩ : MethodName)) hown (mvT hZ (hw _ (List.mem_of_getElem? (i := 16) rfl))) (mvT hZ (hw _ (List.mem_of_getElem? (i := 17) rfl))) (mvT hZ (hw _ (List.mem_of_getElem? (i := 18) rfl))) (mvT hZ (hw _ (List.mem_of_getElem? (i := 19) rfl))) (by decide) (backOf (W := 0) (rm4 l Z a0 hw [] b23 (((p2.toUInt32 >>> ((4 : Int32) &&& 31).toUInt32).toInt32) &&& (3 : Int32)) r5 (f0_v104 p2) (f4_o0 (((p2.toUInt32 >>> ((2 : Int32) &&& 31).toUInt32).toInt32) &&& (3 : Int32)) (f4 (p2 &&& (3 : Int32)) (0 : Int32) (0 : Int64)) (f4_o0 (p2 &&& (3 : Int32)) (0 : Int32) (0 : Int64))) T83.heap n0 c84 c94 c93 g_b23) hZ (hw _ (List.mem_of_getElem? (i := 19) rfl)) (hw _ (List.mem_of_getElem? (i := 18) rfl)) (by decide) (by decide)) (g := (mkF m 117 #[.val (.int p1), .val (.int p2), .val (.int p3), .val (.int p4), .val (.ref r5), .val (.ref b13), .val (.ref b23), .val (.int (f0_v71 p1)), .val (.int (f0_v104 p2)), .unset, .unset, .unset, .unset, .unset] [(.int (f0_v104 p2)), (.ref r5), (.int (((p2.toUInt32 >>> ((4 : Int32) &&& 31).toUInt32).toInt32) &&& (3 : Int32))), (.ref b23)])) rfl (by rw [hml]; rfl) (argsL := [(.ref b23), (.int (((p2.toUInt32 >>> ((4 : Int32) &&& 31).toUInt32).toInt32) &&& (3 : Int32))), (.ref r5), (.int (f0_v104 p2))]) (rest := []) (lenOf pd_4 rfl) rfl (by show 2 * 0 + _ ≤ _; exact Nat.le_of_eq rfl) (hb hby at_117) (fun _ _ => ⟨rfl, rfl, (by decide : 3 + 0 ≤ _), (by decide : 3 + 0 ≤ _)⟩)
  dsimp only [Pt.U, Pt.locs, Pt.cells, Pt.slots] at X95 l95 y95 z95 st95 hQ95
  subst l95 y95 z95
  obtain ⟨rfl, N95q, K95, o95_0⟩ := hQ95
  have N95 := Fr.app N83 N95q
  have c96 : n0 ≤ T95.heap.size := Nat.le_trans c84 K95.1
  have c97 : Sta Z T95.heap "java/lang/Integer$IntegerCache" "high" "I" (.int w_high) := own_staK1 c85 K95 c93
  have c98 : Sta Z T95.heap "java/lang/Integer$IntegerCache" "cache" "[Ljava/lang/Integer;" (.ref w_ic) := own_staK1 c86 K95 c93
  have c99 : RAr Z T95.heap w_ic (.object "java/lang/Integer") z_w_ic c_w_ic := c87.keep K95 (ninS ne_w_ic_b23 nin0)
  have c100 : Sta Z T95.heap "java/lang/Long$LongCache" "cache" "[Ljava/lang/Long;" (.ref w_lc) := own_staK1 c88 K95 c93
  have c101 : RAr Z T95.heap w_lc (.object "java/lang/Long") z_w_lc c_w_lc := c89.keep K95 (ninS ne_w_lc_b23 nin0)
  have c102 : ∀ i : Nat, i < 256 → Exa Z T95.heap (c_w_lc i) "java/lang/Long" := fun i hi => (c90 i hi).keep K95
  have c103 : Exa Z T95.heap b13 "com/example/millrace/millrace/runtime/aggregate/Count" := c91.keep K95
  have c104 : Fld Z T95.heap b13 "com/example/millrace/millrace/runtime/aggregate/Count" "count" "J" (.long (f4_o0 (((p1.toUInt32 >>> ((4 : Int32) &&& 31).toUInt32).toInt32) &&& (3 : Int32)) (f0_v55 p1) (f4_o0 (((p1.toUInt32 >>> ((2 : Int32) &&& 31).toUInt32).toInt32) &&& (3 : Int32)) (f4 (p1 &&& (3 : Int32)) (0 : Int32) (0 : Int64)) (f4_o0 (p1 &&& (3 : Int32)) (0 : Int32) (0 : Int64))))) := c92.keep K95 (ninS ne_b13_b23 nin0)
  have c105 : Exa Z T95.heap b23 "com/example/millrace/millrace/runtime/aggregate/Count" := c93.keep K95
  have c106 : Fld Z T95.heap b23 "com/example/millrace/millrace/runtime/aggregate/Count" "count" "J" (.long (f4_o0 (((p2.toUInt32 >>> ((4 : Int32) &&& 31).toUInt32).toInt32) &&& (3 : Int32)) (f0_v104 p2) (f4_o0 (((p2.toUInt32 >>> ((2 : Int32) &&& 31).toUInt32).toInt32) &&& (3 : Int32)) (f4 (p2 &&& (3 : Int32)) (0 : Int32) (0 : Int64)) (f4_o0 (p2 &&& (3 : Int32)) (0 : Int32) (0 : Int64))))) := o95_0
  have pre1 : ∀ t, Steps p.tables e below (T95.setTop (mkF m 129 #[.val (.int p1), .val (.int p2), .val (.int p3), .val (.int p4), .val (.ref r5), .val (.ref b13), .val (.ref b23), .val (.int (f0_v71 p1)), .val (.int (f0_v120 p2)), .val (.int (p3 &&& (3 : Int32))), .unset, .unset, .unset, .unset] [(.int (p3 &&& (3 : Int32)))])) t → Steps p.tables e below (s₁.setTop (entryFrame m #[(.int p1), (.int p2), (.int p3), (.int p4)] maxLocals)) t := by
    intro t k
    refine pre0 t ?_
    show Steps p.tables e below (s₁.setTop (mkF m 0 #[.val (.int p1), .val (.int p2), .val (.int p3), .val (.int p4), .unset, .unset, .unset, .unset, .unset, .unset, .unset, .unset, .unset, .unset] [])) _
    refine XS.iloadN X0.here hx rfl (hb hby at_0) rfl ?_
    show Steps p.tables e below (s₁.setTop (mkF m 1 #[.val (.int p1), .val (.int p2), .val (.int p3), .val (.int p4), .unset, .unset, .unset, .unset, .unset, .unset, .unset, .unset, .unset, .unset] [(.int p4)])) _
    refine st5 _ ?_
    show Steps p.tables e below (T5.setTop (mkF m 4 #[.val (.int p1), .val (.int p2), .val (.int p3), .val (.int p4), .unset, .unset, .unset, .unset, .unset, .unset, .unset, .unset, .unset, .unset] [(.ref r5)])) _
    refine XS.astore X5.here hx rfl (hb hby at_4) rfl rfl (l' := #[.val (.int p1), .val (.int p2), .val (.int p3), .val (.int p4), .val (.ref r5), .unset, .unset, .unset, .unset, .unset, .unset, .unset, .unset, .unset]) rfl ?_
    show Steps p.tables e below (T5.setTop (mkF m 6 #[.val (.int p1), .val (.int p2), .val (.int p3), .val (.int p4), .val (.ref r5), .unset, .unset, .unset, .unset, .unset, .unset, .unset, .unset, .unset] [])) _
    refine st13 _ ?_
    show Steps p.tables e below (T13.setTop (mkF m 9 #[.val (.int p1), .val (.int p2), .val (.int p3), .val (.int p4), .val (.ref r5), .unset, .unset, .unset, .unset, .unset, .unset, .unset, .unset, .unset] [(.ref b13)])) _
    refine XS.dup X13.here hx rfl (hb hby at_9) rfl rfl ?_
    show Steps p.tables e below (T13.setTop (mkF m 10 #[.val (.int p1), .val (.int p2), .val (.int p3), .val (.int p4), .val (.ref r5), .unset, .unset, .unset, .unset, .unset, .unset, .unset, .unset, .unset] [(.ref b13), (.ref b13)])) _
    refine st22.trans ?_
    show Steps p.tables e below (T22.setTop (mkF m 13 #[.val (.int p1), .val (.int p2), .val (.int p3), .val (.int p4), .val (.ref r5), .unset, .unset, .unset, .unset, .unset, .unset, .unset, .unset, .unset] [(.ref b13)])) _
    refine XS.astore X22.here hx rfl (hb hby at_13) rfl rfl (l' := #[.val (.int p1), .val (.int p2), .val (.int p3), .val (.int p4), .val (.ref r5), .val (.ref b13), .unset, .unset, .unset, .unset, .unset, .unset, .unset, .unset]) rfl ?_
    show Steps p.tables e below (T22.setTop (mkF m 15 #[.val (.int p1), .val (.int p2), .val (.int p3), .val (.int p4), .val (.ref r5), .val (.ref b13), .unset, .unset, .unset, .unset, .unset, .unset, .unset, .unset] [])) _
    refine st23 _ ?_
    show Steps p.tables e below (T23.setTop (mkF m 18 #[.val (.int p1), .val (.int p2), .val (.int p3), .val (.int p4), .val (.ref r5), .val (.ref b13), .unset, .unset, .unset, .unset, .unset, .unset, .unset, .unset] [(.ref b23)])) _
    refine XS.dup X23.here hx rfl (hb hby at_18) rfl rfl ?_
    show Steps p.tables e below (T23.setTop (mkF m 19 #[.val (.int p1), .val (.int p2), .val (.int p3), .val (.int p4), .val (.ref r5), .val (.ref b13), .unset, .unset, .unset, .unset, .unset, .unset, .unset, .unset] [(.ref b23), (.ref b23)])) _
    refine st34.trans ?_
    show Steps p.tables e below (T34.setTop (mkF m 22 #[.val (.int p1), .val (.int p2), .val (.int p3), .val (.int p4), .val (.ref r5), .val (.ref b13), .unset, .unset, .unset, .unset, .unset, .unset, .unset, .unset] [(.ref b23)])) _
    refine XS.astore X34.here hx rfl (hb hby at_22) rfl rfl (l' := #[.val (.int p1), .val (.int p2), .val (.int p3), .val (.int p4), .val (.ref r5), .val (.ref b13), .val (.ref b23), .unset, .unset, .unset, .unset, .unset, .unset, .unset]) rfl ?_
    show Steps p.tables e below (T34.setTop (mkF m 24 #[.val (.int p1), .val (.int p2), .val (.int p3), .val (.int p4), .val (.ref r5), .val (.ref b13), .val (.ref b23), .unset, .unset, .unset, .unset, .unset, .unset, .unset] [])) _
    refine XS.iconst X34.here hx rfl (hb hby at_24) ?_
    show Steps p.tables e below (T34.setTop (mkF m 25 #[.val (.int p1), .val (.int p2), .val (.int p3), .val (.int p4), .val (.ref r5), .val (.ref b13), .val (.ref b23), .unset, .unset, .unset, .unset, .unset, .unset, .unset] [(.int (0 : Int32))])) _
    refine XS.istore X34.here hx rfl (hb hby at_25) rfl (l' := #[.val (.int p1), .val (.int p2), .val (.int p3), .val (.int p4), .val (.ref r5), .val (.ref b13), .val (.ref b23), .val (.int (0 : Int32)), .unset, .unset, .unset, .unset, .unset, .unset]) rfl ?_
    show Steps p.tables e below (T34.setTop (mkF m 27 #[.val (.int p1), .val (.int p2), .val (.int p3), .val (.int p4), .val (.ref r5), .val (.ref b13), .val (.ref b23), .val (.int (0 : Int32)), .unset, .unset, .unset, .unset, .unset, .unset] [])) _
    refine XS.aload X34.here hx rfl (hb hby at_27) rfl rfl ?_
    show Steps p.tables e below (T34.setTop (mkF m 29 #[.val (.int p1), .val (.int p2), .val (.int p3), .val (.int p4), .val (.ref r5), .val (.ref b13), .val (.ref b23), .val (.int (0 : Int32)), .unset, .unset, .unset, .unset, .unset, .unset] [(.ref b13)])) _
    refine XS.iloadN X34.here hx rfl (hb hby at_29) rfl ?_
    show Steps p.tables e below (T34.setTop (mkF m 30 #[.val (.int p1), .val (.int p2), .val (.int p3), .val (.int p4), .val (.ref r5), .val (.ref b13), .val (.ref b23), .val (.int (0 : Int32)), .unset, .unset, .unset, .unset, .unset, .unset] [(.int p1), (.ref b13)])) _
    refine XS.iconst X34.here hx rfl (hb hby at_30) ?_
    show Steps p.tables e below (T34.setTop (mkF m 31 #[.val (.int p1), .val (.int p2), .val (.int p3), .val (.int p4), .val (.ref r5), .val (.ref b13), .val (.ref b23), .val (.int (0 : Int32)), .unset, .unset, .unset, .unset, .unset, .unset] [(.int (3 : Int32)), (.int p1), (.ref b13)])) _
    refine XS.iand X34.here hx rfl (hb hby at_31) rfl ?_
    show Steps p.tables e below (T34.setTop (mkF m 32 #[.val (.int p1), .val (.int p2), .val (.int p3), .val (.int p4), .val (.ref r5), .val (.ref b13), .val (.ref b23), .val (.int (0 : Int32)), .unset, .unset, .unset, .unset, .unset, .unset] [(.int (p1 &&& (3 : Int32))), (.ref b13)])) _
    refine XS.aload X34.here hx rfl (hb hby at_32) rfl rfl ?_
    show Steps p.tables e below (T34.setTop (mkF m 34 #[.val (.int p1), .val (.int p2), .val (.int p3), .val (.int p4), .val (.ref r5), .val (.ref b13), .val (.ref b23), .val (.int (0 : Int32)), .unset, .unset, .unset, .unset, .unset, .unset] [(.ref r5), (.int (p1 &&& (3 : Int32))), (.ref b13)])) _
    refine XS.iload X34.here hx rfl (hb hby at_34) rfl ?_
    show Steps p.tables e below (T34.setTop (mkF m 36 #[.val (.int p1), .val (.int p2), .val (.int p3), .val (.int p4), .val (.ref r5), .val (.ref b13), .val (.ref b23), .val (.int (0 : Int32)), .unset, .unset, .unset, .unset, .unset, .unset] [(.int (0 : Int32)), (.ref r5), (.int (p1 &&& (3 : Int32))), (.ref b13)])) _
    refine st35 _ ?_
    show Steps p.tables e below (T35.setTop (mkF m 39 #[.val (.int p1), .val (.int p2), .val (.int p3), .val (.int p4), .val (.ref r5), .val (.ref b13), .val (.ref b23), .val (.int (0 : Int32)), .unset, .unset, .unset, .unset, .unset, .unset] [(.int (f4 (p1 &&& (3 : Int32)) (0 : Int32) (0 : Int64)))])) _
    refine XS.istore X35.here hx rfl (hb hby at_39) rfl (l' := #[.val (.int p1), .val (.int p2), .val (.int p3), .val (.int p4), .val (.ref r5), .val (.ref b13), .val (.ref b23), .val (.int (f4 (p1 &&& (3 : Int32)) (0 : Int32) (0 : Int64))), .unset, .unset, .unset, .unset, .unset, .unset]) rfl ?_
    show Steps p.tables e below (T35.setTop (mkF m 41 #[.val (.int p1), .val (.int p2), .val (.int p3), .val (.int p4), .val (.ref r5), .val (.ref b13), .val (.ref b23), .val (.int (f4 (p1 &&& (3 : Int32)) (0 : Int32) (0 : Int64))), .unset, .unset, .unset, .unset, .unset, .unset] [])) _
    refine XS.aload X35.here hx rfl (hb hby at_41) rfl rfl ?_
    show Steps p.tables e below (T35.setTop (mkF m 43 #[.val (.int p1), .val (.int p2), .val (.int p3), .val (.int p4), .val (.ref r5), .val (.ref b13), .val (.ref b23), .val (.int (f4 (p1 &&& (3 : Int32)) (0 : Int32) (0 : Int64))), .unset, .unset, .unset, .unset, .unset, .unset] [(.ref b13)])) _
    refine XS.iloadN X35.here hx rfl (hb hby at_43) rfl ?_
    show Steps p.tables e below (T35.setTop (mkF m 44 #[.val (.int p1), .val (.int p2), .val (.int p3), .val (.int p4), .val (.ref r5), .val (.ref b13), .val (.ref b23), .val (.int (f4 (p1 &&& (3 : Int32)) (0 : Int32) (0 : Int64))), .unset, .unset, .unset, .unset, .unset, .unset] [(.int p1), (.ref b13)])) _
    refine XS.iconst X35.here hx rfl (hb hby at_44) ?_
    show Steps p.tables e below (T35.setTop (mkF m 45 #[.val (.int p1), .val (.int p2), .val (.int p3), .val (.int p4), .val (.ref r5), .val (.ref b13), .val (.ref b23), .val (.int (f4 (p1 &&& (3 : Int32)) (0 : Int32) (0 : Int64))), .unset, .unset, .unset, .unset, .unset, .unset] [(.int (2 : Int32)), (.int p1), (.ref b13)])) _
    refine XS.iushr X35.here hx rfl (hb hby at_45) rfl ?_
    show Steps p.tables e below (T35.setTop (mkF m 46 #[.val (.int p1), .val (.int p2), .val (.int p3), .val (.int p4), .val (.ref r5), .val (.ref b13), .val (.ref b23), .val (.int (f4 (p1 &&& (3 : Int32)) (0 : Int32) (0 : Int64))), .unset, .unset, .unset, .unset, .unset, .unset] [(.int ((p1.toUInt32 >>> ((2 : Int32) &&& 31).toUInt32).toInt32)), (.ref b13)])) _
    refine XS.iconst X35.here hx rfl (hb hby at_46) ?_
    show Steps p.tables e below (T35.setTop (mkF m 47 #[.val (.int p1), .val (.int p2), .val (.int p3), .val (.int p4), .val (.ref r5), .val (.ref b13), .val (.ref b23), .val (.int (f4 (p1 &&& (3 : Int32)) (0 : Int32) (0 : Int64))), .unset, .unset, .unset, .unset, .unset, .unset] [(.int (3 : Int32)), (.int ((p1.toUInt32 >>> ((2 : Int32) &&& 31).toUInt32).toInt32)), (.ref b13)])) _
    refine XS.iand X35.here hx rfl (hb hby at_47) rfl ?_
    show Steps p.tables e below (T35.setTop (mkF m 48 #[.val (.int p1), .val (.int p2), .val (.int p3), .val (.int p4), .val (.ref r5), .val (.ref b13), .val (.ref b23), .val (.int (f4 (p1 &&& (3 : Int32)) (0 : Int32) (0 : Int64))), .unset, .unset, .unset, .unset, .unset, .unset] [(.int (((p1.toUInt32 >>> ((2 : Int32) &&& 31).toUInt32).toInt32) &&& (3 : Int32))), (.ref b13)])) _
    refine XS.aload X35.here hx rfl (hb hby at_48) rfl rfl ?_
    show Steps p.tables e below (T35.setTop (mkF m 50 #[.val (.int p1), .val (.int p2), .val (.int p3), .val (.int p4), .val (.ref r5), .val (.ref b13), .val (.ref b23), .val (.int (f4 (p1 &&& (3 : Int32)) (0 : Int32) (0 : Int64))), .unset, .unset, .unset, .unset, .unset, .unset] [(.ref r5), (.int (((p1.toUInt32 >>> ((2 : Int32) &&& 31).toUInt32).toInt32) &&& (3 : Int32))), (.ref b13)])) _
    refine XS.iload X35.here hx rfl (hb hby at_50) rfl ?_
    show Steps p.tables e below (T35.setTop (mkF m 52 #[.val (.int p1), .val (.int p2), .val (.int p3), .val (.int p4), .val (.ref r5), .val (.ref b13), .val (.ref b23), .val (.int (f4 (p1 &&& (3 : Int32)) (0 : Int32) (0 : Int64))), .unset, .unset, .unset, .unset, .unset, .unset] [(.int (f4 (p1 &&& (3 : Int32)) (0 : Int32) (0 : Int64))), (.ref r5), (.int (((p1.toUInt32 >>> ((2 : Int32) &&& 31).toUInt32).toInt32) &&& (3 : Int32))), (.ref b13)])) _
    refine st47 _ ?_
    show Steps p.tables e below (T47.setTop (mkF m 55 #[.val (.int p1), .val (.int p2), .val (.int p3), .val (.int p4), .val (.ref r5), .val (.ref b13), .val (.ref b23), .val (.int (f4 (p1 &&& (3 : Int32)) (0 : Int32) (0 : Int64))), .unset, .unset, .unset, .unset, .unset, .unset] [(.int (f4 (((p1.toUInt32 >>> ((2 : Int32) &&& 31).toUInt32).toInt32) &&& (3 : Int32)) (f4 (p1 &&& (3 : Int32)) (0 : Int32) (0 : Int64)) (f4_o0 (p1 &&& (3 : Int32)) (0 : Int32) (0 : Int64))))])) _
    refine XS.istore X47.here hx rfl (hb hby at_55) rfl (l' := #[.val (.int p1), .val (.int p2), .val (.int p3), .val (.int p4), .val (.ref r5), .val (.ref b13), .val (.ref b23), .val (.int (f0_v55 p1)), .unset, .unset, .unset, .unset, .unset, .unset]) rfl ?_
    show Steps p.tables e below (T47.setTop (mkF m 57 #[.val (.int p1), .val (.int p2), .val (.int p3), .val (.int p4), .val (.ref r5), .val (.ref b13), .val (.ref b23), .val (.int (f0_v55 p1)), .unset, .unset, .unset, .unset, .unset, .unset] [])) _
    refine XS.aload X47.here hx rfl (hb hby at_57) rfl rfl ?_
    show Steps p.tables e below (T47.setTop (mkF m 59 #[.val (.int p1), .val (.int p2), .val (.int p3), .val (.int p4), .val (.ref r5), .val (.ref b13), .val (.ref b23), .val (.int (f0_v55 p1)), .unset, .unset, .unset, .unset, .unset, .unset] [(.ref b13)])) _
    refine XS.iloadN X47.here hx rfl (hb hby at_59) rfl ?_
    show Steps p.tables e below (T47.setTop (mkF m 60 #[.val (.int p1), .val (.int p2), .val (.int p3), .val (.int p4), .val (.ref r5), .val (.ref b13), .val (.ref b23), .val (.int (f0_v55 p1)), .unset, .unset, .unset, .unset, .unset, .unset] [(.int p1), (.ref b13)])) _
    refine XS.iconst X47.here hx rfl (hb hby at_60) ?_
    show Steps p.tables e below (T47.setTop (mkF m 61 #[.val (.int p1), .val (.int p2), .val (.int p3), .val (.int p4), .val (.ref r5), .val (.ref b13), .val (.ref b23), .val (.int (f0_v55 p1)), .unset, .unset, .unset, .unset, .unset, .unset] [(.int (4 : Int32)), (.int p1), (.ref b13)])) _
    refine XS.iushr X47.here hx rfl (hb hby at_61) rfl ?_
    show Steps p.tables e below (T47.setTop (mkF m 62 #[.val (.int p1), .val (.int p2), .val (.int p3), .val (.int p4), .val (.ref r5), .val (.ref b13), .val (.ref b23), .val (.int (f0_v55 p1)), .unset, .unset, .unset, .unset, .unset, .unset] [(.int ((p1.toUInt32 >>> ((4 : Int32) &&& 31).toUInt32).toInt32)), (.ref b13)])) _
    refine XS.iconst X47.here hx rfl (hb hby at_62) ?_
    show Steps p.tables e below (T47.setTop (mkF m 63 #[.val (.int p1), .val (.int p2), .val (.int p3), .val (.int p4), .val (.ref r5), .val (.ref b13), .val (.ref b23), .val (.int (f0_v55 p1)), .unset, .unset, .unset, .unset, .unset, .unset] [(.int (3 : Int32)), (.int ((p1.toUInt32 >>> ((4 : Int32) &&& 31).toUInt32).toInt32)), (.ref b13)])) _
    refine XS.iand X47.here hx rfl (hb hby at_63) rfl ?_
    show Steps p.tables e below (T47.setTop (mkF m 64 #[.val (.int p1), .val (.int p2), .val (.int p3), .val (.int p4), .val (.ref r5), .val (.ref b13), .val (.ref b23), .val (.int (f0_v55 p1)), .unset, .unset, .unset, .unset, .unset, .unset] [(.int (((p1.toUInt32 >>> ((4 : Int32) &&& 31).toUInt32).toInt32) &&& (3 : Int32))), (.ref b13)])) _
    refine XS.aload X47.here hx rfl (hb hby at_64) rfl rfl ?_
    show Steps p.tables e below (T47.setTop (mkF m 66 #[.val (.int p1), .val (.int p2), .val (.int p3), .val (.int p4), .val (.ref r5), .val (.ref b13), .val (.ref b23), .val (.int (f0_v55 p1)), .unset, .unset, .unset, .unset, .unset, .unset] [(.ref r5), (.int (((p1.toUInt32 >>> ((4 : Int32) &&& 31).toUInt32).toInt32) &&& (3 : Int32))), (.ref b13)])) _
    refine XS.iload X47.here hx rfl (hb hby at_66) rfl ?_
    show Steps p.tables e below (T47.setTop (mkF m 68 #[.val (.int p1), .val (.int p2), .val (.int p3), .val (.int p4), .val (.ref r5), .val (.ref b13), .val (.ref b23), .val (.int (f0_v55 p1)), .unset, .unset, .unset, .unset, .unset, .unset] [(.int (f0_v55 p1)), (.ref r5), (.int (((p1.toUInt32 >>> ((4 : Int32) &&& 31).toUInt32).toInt32) &&& (3 : Int32))), (.ref b13)])) _
    refine st59 _ ?_
    show Steps p.tables e below (T59.setTop (mkF m 71 #[.val (.int p1), .val (.int p2), .val (.int p3), .val (.int p4), .val (.ref r5), .val (.ref b13), .val (.ref b23), .val (.int (f0_v55 p1)), .unset, .unset, .unset, .unset, .unset, .unset] [(.int (f4 (((p1.toUInt32 >>> ((4 : Int32) &&& 31).toUInt32).toInt32) &&& (3 : Int32)) (f0_v55 p1) (f4_o0 (((p1.toUInt32 >>> ((2 : Int32) &&& 31).toUInt32).toInt32) &&& (3 : Int32)) (f4 (p1 &&& (3 : Int32)) (0 : Int32) (0 : Int64)) (f4_o0 (p1 &&& (3 : Int32)) (0 : Int32) (0 : Int64)))))])) _
    refine XS.istore X59.here hx rfl (hb hby at_71) rfl (l' := #[.val (.int p1), .val (.int p2), .val (.int p3), .val (.int p4), .val (.ref r5), .val (.ref b13), .val (.ref b23), .val (.int (f0_v71 p1)), .unset, .unset, .unset, .unset, .unset, .unset]) rfl ?_
    show Steps p.tables e below (T59.setTop (mkF m 73 #[.val (.int p1), .val (.int p2), .val (.int p3), .val (.int p4), .val (.ref r5), .val (.ref b13), .val (.ref b23), .val (.int (f0_v71 p1)), .unset, .unset, .unset, .unset, .unset, .unset] [])) _
    refine XS.iconst X59.here hx rfl (hb hby at_73) ?_
    show Steps p.tables e below (T59.setTop (mkF m 74 #[.val (.int p1), .val (.int p2), .val (.int p3), .val (.int p4), .val (.ref r5), .val (.ref b13), .val (.ref b23), .val (.int (f0_v71 p1)), .unset, .unset, .unset, .unset, .unset, .unset] [(.int (0 : Int32))])) _
    refine XS.istore X59.here hx rfl (hb hby at_74) rfl (l' := #[.val (.int p1), .val (.int p2), .val (.int p3), .val (.int p4), .val (.ref r5), .val (.ref b13), .val (.ref b23), .val (.int (f0_v71 p1)), .val (.int (0 : Int32)), .unset, .unset, .unset, .unset, .unset]) rfl ?_
    show Steps p.tables e below (T59.setTop (mkF m 76 #[.val (.int p1), .val (.int p2), .val (.int p3), .val (.int p4), .val (.ref r5), .val (.ref b13), .val (.ref b23), .val (.int (f0_v71 p1)), .val (.int (0 : Int32)), .unset, .unset, .unset, .unset, .unset] [])) _
    refine XS.aload X59.here hx rfl (hb hby at_76) rfl rfl ?_
    show Steps p.tables e below (T59.setTop (mkF m 78 #[.val (.int p1), .val (.int p2), .val (.int p3), .val (.int p4), .val (.ref r5), .val (.ref b13), .val (.ref b23), .val (.int (f0_v71 p1)), .val (.int (0 : Int32)), .unset, .unset, .unset, .unset, .unset] [(.ref b23)])) _
    refine XS.iloadN X59.here hx rfl (hb hby at_78) rfl ?_
    show Steps p.tables e below (T59.setTop (mkF m 79 #[.val (.int p1), .val (.int p2), .val (.int p3), .val (.int p4), .val (.ref r5), .val (.ref b13), .val (.ref b23), .val (.int (f0_v71 p1)), .val (.int (0 : Int32)), .unset, .unset, .unset, .unset, .unset] [(.int p2), (.ref b23)])) _
    refine XS.iconst X59.here hx rfl (hb hby at_79) ?_
    show Steps p.tables e below (T59.setTop (mkF m 80 #[.val (.int p1), .val (.int p2), .val (.int p3), .val (.int p4), .val (.ref r5), .val (.ref b13), .val (.ref b23), .val (.int (f0_v71 p1)), .val (.int (0 : Int32)), .unset, .unset, .unset, .unset, .unset] [(.int (3 : Int32)), (.int p2), (.ref b23)])) _
    refine XS.iand X59.here hx rfl (hb hby at_80) rfl ?_
    show Steps p.tables e below (T59.setTop (mkF m 81 #[.val (.int p1), .val (.int p2), .val (.int p3), .val (.int p4), .val (.ref r5), .val (.ref b13), .val (.ref b23), .val (.int (f0_v71 p1)), .val (.int (0 : Int32)), .unset, .unset, .unset, .unset, .unset] [(.int (p2 &&& (3 : Int32))), (.ref b23)])) _
    refine XS.aload X59.here hx rfl (hb hby at_81) rfl rfl ?_
    show Steps p.tables e below (T59.setTop (mkF m 83 #[.val (.int p1), .val (.int p2), .val (.int p3), .val (.int p4), .val (.ref r5), .val (.ref b13), .val (.ref b23), .val (.int (f0_v71 p1)), .val (.int (0 : Int32)), .unset, .unset, .unset, .unset, .unset] [(.ref r5), (.int (p2 &&& (3 : Int32))), (.ref b23)])) _
    refine XS.iload X59.here hx rfl (hb hby at_83) rfl ?_
    show Steps p.tables e below (T59.setTop (mkF m 85 #[.val (.int p1), .val (.int p2), .val (.int p3), .val (.int p4), .val (.ref r5), .val (.ref b13), .val (.ref b23), .val (.int (f0_v71 p1)), .val (.int (0 : Int32)), .unset, .unset, .unset, .unset, .unset] [(.int (0 : Int32)), (.ref r5), (.int (p2 &&& (3 : Int32))), (.ref b23)])) _
    refine st71 _ ?_
    show Steps p.tables e below (T71.setTop (mkF m 88 #[.val (.int p1), .val (.int p2), .val (.int p3), .val (.int p4), .val (.ref r5), .val (.ref b13), .val (.ref b23), .val (.int (f0_v71 p1)), .val (.int (0 : Int32)), .unset, .unset, .unset, .unset, .unset] [(.int (f4 (p2 &&& (3 : Int32)) (0 : Int32) (0 : Int64)))])) _
    refine XS.istore X71.here hx rfl (hb hby at_88) rfl (l' := #[.val (.int p1), .val (.int p2), .val (.int p3), .val (.int p4), .val (.ref r5), .val (.ref b13), .val (.ref b23), .val (.int (f0_v71 p1)), .val (.int (f4 (p2 &&& (3 : Int32)) (0 : Int32) (0 : Int64))), .unset, .unset, .unset, .unset, .unset]) rfl ?_
    show Steps p.tables e below (T71.setTop (mkF m 90 #[.val (.int p1), .val (.int p2), .val (.int p3), .val (.int p4), .val (.ref r5), .val (.ref b13), .val (.ref b23), .val (.int (f0_v71 p1)), .val (.int (f4 (p2 &&& (3 : Int32)) (0 : Int32) (0 : Int64))), .unset, .unset, .unset, .unset, .unset] [])) _
    refine XS.aload X71.here hx rfl (hb hby at_90) rfl rfl ?_
    show Steps p.tables e below (T71.setTop (mkF m 92 #[.val (.int p1), .val (.int p2), .val (.int p3), .val (.int p4), .val (.ref r5), .val (.ref b13), .val (.ref b23), .val (.int (f0_v71 p1)), .val (.int (f4 (p2 &&& (3 : Int32)) (0 : Int32) (0 : Int64))), .unset, .unset, .unset, .unset, .unset] [(.ref b23)])) _
    refine XS.iloadN X71.here hx rfl (hb hby at_92) rfl ?_
    show Steps p.tables e below (T71.setTop (mkF m 93 #[.val (.int p1), .val (.int p2), .val (.int p3), .val (.int p4), .val (.ref r5), .val (.ref b13), .val (.ref b23), .val (.int (f0_v71 p1)), .val (.int (f4 (p2 &&& (3 : Int32)) (0 : Int32) (0 : Int64))), .unset, .unset, .unset, .unset, .unset] [(.int p2), (.ref b23)])) _
    refine XS.iconst X71.here hx rfl (hb hby at_93) ?_
    show Steps p.tables e below (T71.setTop (mkF m 94 #[.val (.int p1), .val (.int p2), .val (.int p3), .val (.int p4), .val (.ref r5), .val (.ref b13), .val (.ref b23), .val (.int (f0_v71 p1)), .val (.int (f4 (p2 &&& (3 : Int32)) (0 : Int32) (0 : Int64))), .unset, .unset, .unset, .unset, .unset] [(.int (2 : Int32)), (.int p2), (.ref b23)])) _
    refine XS.iushr X71.here hx rfl (hb hby at_94) rfl ?_
    show Steps p.tables e below (T71.setTop (mkF m 95 #[.val (.int p1), .val (.int p2), .val (.int p3), .val (.int p4), .val (.ref r5), .val (.ref b13), .val (.ref b23), .val (.int (f0_v71 p1)), .val (.int (f4 (p2 &&& (3 : Int32)) (0 : Int32) (0 : Int64))), .unset, .unset, .unset, .unset, .unset] [(.int ((p2.toUInt32 >>> ((2 : Int32) &&& 31).toUInt32).toInt32)), (.ref b23)])) _
    refine XS.iconst X71.here hx rfl (hb hby at_95) ?_
    show Steps p.tables e below (T71.setTop (mkF m 96 #[.val (.int p1), .val (.int p2), .val (.int p3), .val (.int p4), .val (.ref r5), .val (.ref b13), .val (.ref b23), .val (.int (f0_v71 p1)), .val (.int (f4 (p2 &&& (3 : Int32)) (0 : Int32) (0 : Int64))), .unset, .unset, .unset, .unset, .unset] [(.int (3 : Int32)), (.int ((p2.toUInt32 >>> ((2 : Int32) &&& 31).toUInt32).toInt32)), (.ref b23)])) _
    refine XS.iand X71.here hx rfl (hb hby at_96) rfl ?_
    show Steps p.tables e below (T71.setTop (mkF m 97 #[.val (.int p1), .val (.int p2), .val (.int p3), .val (.int p4), .val (.ref r5), .val (.ref b13), .val (.ref b23), .val (.int (f0_v71 p1)), .val (.int (f4 (p2 &&& (3 : Int32)) (0 : Int32) (0 : Int64))), .unset, .unset, .unset, .unset, .unset] [(.int (((p2.toUInt32 >>> ((2 : Int32) &&& 31).toUInt32).toInt32) &&& (3 : Int32))), (.ref b23)])) _
    refine XS.aload X71.here hx rfl (hb hby at_97) rfl rfl ?_
    show Steps p.tables e below (T71.setTop (mkF m 99 #[.val (.int p1), .val (.int p2), .val (.int p3), .val (.int p4), .val (.ref r5), .val (.ref b13), .val (.ref b23), .val (.int (f0_v71 p1)), .val (.int (f4 (p2 &&& (3 : Int32)) (0 : Int32) (0 : Int64))), .unset, .unset, .unset, .unset, .unset] [(.ref r5), (.int (((p2.toUInt32 >>> ((2 : Int32) &&& 31).toUInt32).toInt32) &&& (3 : Int32))), (.ref b23)])) _
    refine XS.iload X71.here hx rfl (hb hby at_99) rfl ?_
    show Steps p.tables e below (T71.setTop (mkF m 101 #[.val (.int p1), .val (.int p2), .val (.int p3), .val (.int p4), .val (.ref r5), .val (.ref b13), .val (.ref b23), .val (.int (f0_v71 p1)), .val (.int (f4 (p2 &&& (3 : Int32)) (0 : Int32) (0 : Int64))), .unset, .unset, .unset, .unset, .unset] [(.int (f4 (p2 &&& (3 : Int32)) (0 : Int32) (0 : Int64))), (.ref r5), (.int (((p2.toUInt32 >>> ((2 : Int32) &&& 31).toUInt32).toInt32) &&& (3 : Int32))), (.ref b23)])) _
    refine st83 _ ?_
    show Steps p.tables e below (T83.setTop (mkF m 104 #[.val (.int p1), .val (.int p2), .val (.int p3), .val (.int p4), .val (.ref r5), .val (.ref b13), .val (.ref b23), .val (.int (f0_v71 p1)), .val (.int (f4 (p2 &&& (3 : Int32)) (0 : Int32) (0 : Int64))), .unset, .unset, .unset, .unset, .unset] [(.int (f4 (((p2.toUInt32 >>> ((2 : Int32) &&& 31).toUInt32).toInt32) &&& (3 : Int32)) (f4 (p2 &&& (3 : Int32)) (0 : Int32) (0 : Int64)) (f4_o0 (p2 &&& (3 : Int32)) (0 : Int32) (0 : Int64))))])) _
    refine XS.istore X83.here hx rfl (hb hby at_104) rfl (l' := #[.val (.int p1), .val (.int p2), .val (.int p3), .val (.int p4), .val (.ref r5), .val (.ref b13), .val (.ref b23), .val (.int (f0_v71 p1)), .val (.int (f0_v104 p2)), .unset, .unset, .unset, .unset, .unset]) rfl ?_
    show Steps p.tables e below (T83.setTop (mkF m 106 #[.val (.int p1), .val (.int p2), .val (.int p3), .val (.int p4), .val (.ref r5), .val (.ref b13), .val (.ref b23), .val (.int (f0_v71 p1)), .val (.int (f0_v104 p2)), .unset, .unset, .unset, .unset, .unset] [])) _
    refine XS.aload X83.here hx rfl (hb hby at_106) rfl rfl ?_
    show Steps p.tables e below (T83.setTop (mkF m 108 #[.val (.int p1), .val (.int p2), .val (.int p3), .val (.int p4), .val (.ref r5), .val (.ref b13), .val (.ref b23), .val (.int (f0_v71 p1)), .val (.int (f0_v104 p2)), .unset, .unset, .unset, .unset, .unset] [(.ref b23)])) _
    refine XS.iloadN X83.here hx rfl (hb hby at_108) rfl ?_
    show Steps p.tables e below (T83.setTop (mkF m 109 #[.val (.int p1), .val (.int p2), .val (.int p3), .val (.int p4), .val (.ref r5), .val (.ref b13), .val (.ref b23), .val (.int (f0_v71 p1)), .val (.int (f0_v104 p2)), .unset, .unset, .unset, .unset, .unset] [(.int p2), (.ref b23)])) _
    refine XS.iconst X83.here hx rfl (hb hby at_109) ?_
    show Steps p.tables e below (T83.setTop (mkF m 110 #[.val (.int p1), .val (.int p2), .val (.int p3), .val (.int p4), .val (.ref r5), .val (.ref b13), .val (.ref b23), .val (.int (f0_v71 p1)), .val (.int (f0_v104 p2)), .unset, .unset, .unset, .unset, .unset] [(.int (4 : Int32)), (.int p2), (.ref b23)])) _
    refine XS.iushr X83.here hx rfl (hb hby at_110) rfl ?_
    show Steps p.tables e below (T83.setTop (mkF m 111 #[.val (.int p1), .val (.int p2), .val (.int p3), .val (.int p4), .val (.ref r5), .val (.ref b13), .val (.ref b23), .val (.int (f0_v71 p1)), .val (.int (f0_v104 p2)), .unset, .unset, .unset, .unset, .unset] [(.int ((p2.toUInt32 >>> ((4 : Int32) &&& 31).toUInt32).toInt32)), (.ref b23)])) _
    refine XS.iconst X83.here hx rfl (hb hby at_111) ?_
    show Steps p.tables e below (T83.setTop (mkF m 112 #[.val (.int p1), .val (.int p2), .val (.int p3), .val (.int p4), .val (.ref r5), .val (.ref b13), .val (.ref b23), .val (.int (f0_v71 p1)), .val (.int (f0_v104 p2)), .unset, .unset, .unset, .unset, .unset] [(.int (3 : Int32)), (.int ((p2.toUInt32 >>> ((4 : Int32) &&& 31).toUInt32).toInt32)), (.ref b23)])) _
    refine XS.iand X83.here hx rfl (hb hby at_112) rfl ?_
    show Steps p.tables e below (T83.setTop (mkF m 113 #[.val (.int p1), .val (.int p2), .val (.int p3), .val (.int p4), .val (.ref r5), .val (.ref b13), .val (.ref b23), .val (.int (f0_v71 p1)), .val (.int (f0_v104 p2)), .unset, .unset, .unset, .unset, .unset] [(.int (((p2.toUInt32 >>> ((4 : Int32) &&& 31).toUInt32).toInt32) &&& (3 : Int32))), (.ref b23)])) _
    refine XS.aload X83.here hx rfl (hb hby at_113) rfl rfl ?_
    show Steps p.tables e below (T83.setTop (mkF m 115 #[.val (.int p1), .val (.int p2), .val (.int p3), .val (.int p4), .val (.ref r5), .val (.ref b13), .val (.ref b23), .val (.int (f0_v71 p1)), .val (.int (f0_v104 p2)), .unset, .unset, .unset, .unset, .unset] [(.ref r5), (.int (((p2.toUInt32 >>> ((4 : Int32) &&& 31).toUInt32).toInt32) &&& (3 : Int32))), (.ref b23)])) _
    refine XS.iload X83.here hx rfl (hb hby at_115) rfl ?_
    show Steps p.tables e below (T83.setTop (mkF m 117 #[.val (.int p1), .val (.int p2), .val (.int p3), .val (.int p4), .val (.ref r5), .val (.ref b13), .val (.ref b23), .val (.int (f0_v71 p1)), .val (.int (f0_v104 p2)), .unset, .unset, .unset, .unset, .unset] [(.int (f0_v104 p2)), (.ref r5), (.int (((p2.toUInt32 >>> ((4 : Int32) &&& 31).toUInt32).toInt32) &&& (3 : Int32))), (.ref b23)])) _
    refine st95 _ ?_
    show Steps p.tables e below (T95.setTop (mkF m 120 #[.val (.int p1), .val (.int p2), .val (.int p3), .val (.int p4), .val (.ref r5), .val (.ref b13), .val (.ref b23), .val (.int (f0_v71 p1)), .val (.int (f0_v104 p2)), .unset, .unset, .unset, .unset, .unset] [(.int (f4 (((p2.toUInt32 >>> ((4 : Int32) &&& 31).toUInt32).toInt32) &&& (3 : Int32)) (f0_v104 p2) (f4_o0 (((p2.toUInt32 >>> ((2 : Int32) &&& 31).toUInt32).toInt32) &&& (3 : Int32)) (f4 (p2 &&& (3 : Int32)) (0 : Int32) (0 : Int64)) (f4_o0 (p2 &&& (3 : Int32)) (0 : Int32) (0 : Int64)))))])) _
    refine XS.istore X95.here hx rfl (hb hby at_120) rfl (l' := #[.val (.int p1), .val (.int p2), .val (.int p3), .val (.int p4), .val (.ref r5), .val (.ref b13), .val (.ref b23), .val (.int (f0_v71 p1)), .val (.int (f0_v120 p2)), .unset, .unset, .unset, .unset, .unset]) rfl ?_
    show Steps p.tables e below (T95.setTop (mkF m 122 #[.val (.int p1), .val (.int p2), .val (.int p3), .val (.int p4), .val (.ref r5), .val (.ref b13), .val (.ref b23), .val (.int (f0_v71 p1)), .val (.int (f0_v120 p2)), .unset, .unset, .unset, .unset, .unset] [])) _
    refine XS.iloadN X95.here hx rfl (hb hby at_122) rfl ?_
    show Steps p.tables e below (T95.setTop (mkF m 123 #[.val (.int p1), .val (.int p2), .val (.int p3), .val (.int p4), .val (.ref r5), .val (.ref b13), .val (.ref b23), .val (.int (f0_v71 p1)), .val (.int (f0_v120 p2)), .unset, .unset, .unset, .unset, .unset] [(.int p3)])) _
    refine XS.iconst X95.here hx rfl (hb hby at_123) ?_
    show Steps p.tables e below (T95.setTop (mkF m 124 #[.val (.int p1), .val (.int p2), .val (.int p3), .val (.int p4), .val (.ref r5), .val (.ref b13), .val (.ref b23), .val (.int (f0_v71 p1)), .val (.int (f0_v120 p2)), .unset, .unset, .unset, .unset, .unset] [(.int (3 : Int32)), (.int p3)])) _
    refine XS.iand X95.here hx rfl (hb hby at_124) rfl ?_
    show Steps p.tables e below (T95.setTop (mkF m 125 #[.val (.int p1), .val (.int p2), .val (.int p3), .val (.int p4), .val (.ref r5), .val (.ref b13), .val (.ref b23), .val (.int (f0_v71 p1)), .val (.int (f0_v120 p2)), .unset, .unset, .unset, .unset, .unset] [(.int (p3 &&& (3 : Int32)))])) _
    refine XS.istore X95.here hx rfl (hb hby at_125) rfl (l' := #[.val (.int p1), .val (.int p2), .val (.int p3), .val (.int p4), .val (.ref r5), .val (.ref b13), .val (.ref b23), .val (.int (f0_v71 p1)), .val (.int (f0_v120 p2)), .val (.int (p3 &&& (3 : Int32))), .unset, .unset, .unset, .unset]) rfl ?_
    show Steps p.tables e below (T95.setTop (mkF m 127 #[.val (.int p1), .val (.int p2), .val (.int p3), .val (.int p4), .val (.ref r5), .val (.ref b13), .val (.ref b23), .val (.int (f0_v71 p1)), .val (.int (f0_v120 p2)), .val (.int (p3 &&& (3 : Int32))), .unset, .unset, .unset, .unset] [])) _
    refine XS.iload X95.here hx rfl (hb hby at_127) rfl ?_
    exact k
  by_cases hc129 : (p3 &&& (3 : Int32)) = (0 : Int32)
  · have pre2 : ∀ t, Steps p.tables e below (T95.setTop (mkF m 140 #[.val (.int p1), .val (.int p2), .val (.int p3), .val (.int p4), .val (.ref r5), .val (.ref b13), .val (.ref b23), .val (.int (f0_v71 p1)), .val (.int (f0_v120 p2)), .val (.int (p3 &&& (3 : Int32))), .val (.ref b23), .unset, .unset, .unset] [(.int (f0_v120 p2)), (.int (f0_v71 p1))])) t → Steps p.tables e below (s₁.setTop (entryFrame m #[(.int p1), (.int p2), (.int p3), (.int p4)] maxLocals)) t := by
      intro t k
      refine pre1 t ?_
      show Steps p.tables e below (T95.setTop (mkF m 129 #[.val (.int p1), .val (.int p2), .val (.int p3), .val (.int p4), .val (.ref r5), .val (.ref b13), .val (.ref b23), .val (.int (f0_v71 p1)), .val (.int (f0_v120 p2)), .val (.int (p3 &&& (3 : Int32))), .unset, .unset, .unset, .unset] [(.int (p3 &&& (3 : Int32)))])) _
      refine XS.ifNo X95.here hx rfl (hb hby at_129) rfl ((if0 _ _).trans (teq hc129).2) ?_
      show Steps p.tables e below (T95.setTop (mkF m 132 #[.val (.int p1), .val (.int p2), .val (.int p3), .val (.int p4), .val (.ref r5), .val (.ref b13), .val (.ref b23), .val (.int (f0_v71 p1)), .val (.int (f0_v120 p2)), .val (.int (p3 &&& (3 : Int32))), .unset, .unset, .unset, .unset] [])) _
      refine XS.aload X95.here hx rfl (hb hby at_132) rfl rfl ?_
      show Steps p.tables e below (T95.setTop (mkF m 134 #[.val (.int p1), .val (.int p2), .val (.int p3), .val (.int p4), .val (.ref r5), .val (.ref b13), .val (.ref b23), .val (.int (f0_v71 p1)), .val (.int (f0_v120 p2)), .val (.int (p3 &&& (3 : Int32))), .unset, .unset, .unset, .unset] [(.ref b23)])) _
      refine XS.astore X95.here hx rfl (hb hby at_134) rfl rfl (l' := #[.val (.int p1), .val (.int p2), .val (.int p3), .val (.int p4), .val (.ref r5), .val (.ref b13), .val (.ref b23), .val (.int (f0_v71 p1)), .val (.int (f0_v120 p2)), .val (.int (p3 &&& (3 : Int32))), .val (.ref b23), .unset, .unset, .unset]) rfl ?_
      show Steps p.tables e below (T95.setTop (mkF m 136 #[.val (.int p1), .val (.int p2), .val (.int p3), .val (.int p4), .val (.ref r5), .val (.ref b13), .val (.ref b23), .val (.int (f0_v71 p1)), .val (.int (f0_v120 p2)), .val (.int (p3 &&& (3 : Int32))), .val (.ref b23), .unset, .unset, .unset] [])) _
      refine XS.iload X95.here hx rfl (hb hby at_136) rfl ?_
      show Steps p.tables e below (T95.setTop (mkF m 138 #[.val (.int p1), .val (.int p2), .val (.int p3), .val (.int p4), .val (.ref r5), .val (.ref b13), .val (.ref b23), .val (.int (f0_v71 p1)), .val (.int (f0_v120 p2)), .val (.int (p3 &&& (3 : Int32))), .val (.ref b23), .unset, .unset, .unset] [(.int (f0_v71 p1))])) _
      refine XS.iload X95.here hx rfl (hb hby at_138) rfl ?_
      exact k
    have pre3 : ∀ t, Steps p.tables e below (T95.setTop (mkF m 148 #[.val (.int p1), .val (.int p2), .val (.int p3), .val (.int p4), .val (.ref r5), .val (.ref b13), .val (.ref b23), .val (.int (f0_v71 p1)), .val (.int (f0_v120 p2)), .val (.int (p3 &&& (3 : Int32))), .val (.ref b23), .unset, .unset, .unset] [(.int (f0_s0_148 p1 p2))])) t → Steps p.tables e below (s₁.setTop (entryFrame m #[(.int p1), (.int p2), (.int p3), (.int p4)] maxLocals)) t := by
      intro t k
      by_cases hc140 : (f0_v71 p1) = (f0_v120 p2)
      · have eq4 := (show (f0_s0_148 p1 p2) = (1 : Int32) from by unfold f0_s0_148; simp only [if_pos hc140])
        try rw [eq4] at k
        refine pre2 t ?_
        show Steps p.tables e below (T95.setTop (mkF m 140 #[.val (.int p1), .val (.int p2), .val (.int p3), .val (.int p4), .val (.ref r5), .val (.ref b13), .val (.ref b23), .val (.int (f0_v71 p1)), .val (.int (f0_v120 p2)), .val (.int (p3 &&& (3 : Int32))), .val (.ref b23), .unset, .unset, .unset] [(.int (f0_v120 p2)), (.int (f0_v71 p1))])) _
        refine XS.icmpNo X95.here hx rfl (hb hby at_140) rfl (teq hc140).2 ?_
        show Steps p.tables e below (T95.setTop (mkF m 143 #[.val (.int p1), .val (.int p2), .val (.int p3), .val (.int p4), .val (.ref r5), .val (.ref b13), .val (.ref b23), .val (.int (f0_v71 p1)), .val (.int (f0_v120 p2)), .val (.int (p3 &&& (3 : Int32))), .val (.ref b23), .unset, .unset, .unset] [])) _
        refine XS.iconst X95.here hx rfl (hb hby at_143) ?_
        show Steps p.tables e below (T95.setTop (mkF m 144 #[.val (.int p1), .val (.int p2), .val (.int p3), .val (.int p4), .val (.ref r5), .val (.ref b13), .val (.ref b23), .val (.int (f0_v71 p1)), .val (.int (f0_v120 p2)), .val (.int (p3 &&& (3 : Int32))), .val (.ref b23), .unset, .unset, .unset] [(.int (1 : Int32))])) _
        refine XS.goto X95.here hx rfl (pc0 := 144) (pc' := 148) rfl (hb hby at_144) (by decide) (by decide) ?_
        exact k
      · have eq5 := (show (f0_s0_148 p1 p2) = (0 : Int32) from by unfold f0_s0_148; simp only [if_neg hc140])
        try rw [eq5] at k
        refine pre2 t ?_
        show Steps p.tables e below (T95.setTop (mkF m 140 #[.val (.int p1), .val (.int p2), .val (.int p3), .val (.int p4), .val (.ref r5), .val (.ref b13), .val (.ref b23), .val (.int (f0_v71 p1)), .val (.int (f0_v120 p2)), .val (.int (p3 &&& (3 : Int32))), .val (.ref b23), .unset, .unset, .unset] [(.int (f0_v120 p2)), (.int (f0_v71 p1))])) _
        refine XS.icmpYes X95.here hx rfl (pc0 := 140) (pc' := 147) rfl (hb hby at_140) rfl (feq hc140).2 (by decide) (by decide) ?_
        show Steps p.tables e below (T95.setTop (mkF m 147 #[.val (.int p1), .val (.int p2), .val (.int p3), .val (.int p4), .val (.ref r5), .val (.ref b13), .val (.ref b23), .val (.int (f0_v71 p1)), .val (.int (f0_v120 p2)), .val (.int (p3 &&& (3 : Int32))), .val (.ref b23), .unset, .unset, .unset] [])) _
        refine XS.iconst X95.here hx rfl (hb hby at_147) ?_
        exact k
    obtain ⟨cq108, kq108, q108a, q108b, q108c⟩ := isOf hZ rfl c103
    obtain ⟨_, _, ⟨T108, L108, k108, n108⟩, -, X108, ⟨Lc108, hQ108, l108, y108, z108⟩, st108⟩ := X95.virtualBack hx (y := (⟨"com/example/millrace/millrace/runtime/aggregate/Count", "equals", "(Ljava/lang/Object;)Z"⟩ : MethodName)) (z := (⟨"com/example/millrace/millrace/runtime/aggregate/Count", "equals", "(Ljava/lang/Object;)Z"⟩ : MethodName)) hown (mvT hZ (hw _ (List.mem_of_getElem? (i := 40) rfl))) (mvT hZ (hw _ (List.mem_of_getElem? (i := 41) rfl))) (notFace_of_selects (args := #[]) (mvT hZ (hw _ (List.mem_of_getElem? (i := 43) rfl)))) (mvT hZ (hw _ (List.mem_of_getElem? (i := 43) rfl))) (mvT hZ (hw _ (List.mem_of_getElem? (i := 42) rfl))) (by decide) (backOf (W := 0) (rm8 l Z a0 hw [] b13 b23 (f4_o0 (((p1.toUInt32 >>> ((4 : Int32) &&& 31).toUInt32).toInt32) &&& (3 : Int32)) (f0_v55 p1) (f4_o0 (((p1.toUInt32 >>> ((2 : Int32) &&& 31).toUInt32).toInt32) &&& (3 : Int32)) (f4 (p1 &&& (3 : Int32)) (0 : Int32) (0 : Int64)) (f4_o0 (p1 &&& (3 : Int32)) (0 : Int32) (0 : Int64)))) (f4_o0 (((p2.toUInt32 >>> ((4 : Int32) &&& 31).toUInt32).toInt32) &&& (3 : Int32)) (f0_v104 p2) (f4_o0 (((p2.toUInt32 >>> ((2 : Int32) &&& 31).toUInt32).toInt32) &&& (3 : Int32)) (f4 (p2 &&& (3 : Int32)) (0 : Int32) (0 : Int64)) (f4_o0 (p2 &&& (3 : Int32)) (0 : Int32) (0 : Int64)))) T95.heap n0 c96 c104 c105 c106) hZ (hw _ (List.mem_of_getElem? (i := 44) rfl)) (hw _ (List.mem_of_getElem? (i := 9) rfl)) (by decide) (by decide)) q108a q108c (g := (mkF m 199 #[.val (.int p1), .val (.int p2), .val (.int p3), .val (.int p4), .val (.ref r5), .val (.ref b13), .val (.ref b23), .val (.int (f0_v71 p1)), .val (.int (f0_v120 p2)), .val (.int (p3 &&& (3 : Int32))), .val (.ref b23), .val (.int (f0_s0_148 p1 p2)), .unset, .unset] [(.ref b23), (.ref b13)])) rfl (by rw [hml]; rfl) (Steps.refl _) (argsL := [(.ref b23)]) (rest := []) (lenOf pd_6 rfl) rfl (by show 2 * 0 + _ ≤ _; exact Nat.le_of_eq rfl) (hb hby at_199) (fun _ _ => ⟨rfl, rfl, (by decide : 3 + 0 ≤ _), (by decide : 3 + 0 ≤ _)⟩)
    dsimp only [Pt.U, Pt.locs, Pt.cells, Pt.slots] at X108 l108 y108 z108 st108 hQ108
    subst l108 y108 z108
    obtain ⟨rfl, N108q, e108⟩ := hQ108
    have N108 := Fr.app N95 N108q
    obtain ⟨cq109, kq109, q109a, q109b, q109c⟩ := isOf hZ e108 c105
    obtain ⟨_, _, ⟨T109, L109, k109, n109⟩, -, X109, ⟨Lc109, hQ109, l109, y109, z109⟩, st109⟩ := X108.virtualBack hx (y := (⟨"com/example/millrace/millrace/runtime/aggregate/Count", "equals", "(Ljava/lang/Object;)Z"⟩ : MethodName)) (z := (⟨"com/example/millrace/millrace/runtime/aggregate/Count", "equals", "(Ljava/lang/Object;)Z"⟩ : MethodName)) hown (mvT hZ (hw _ (List.mem_of_getElem? (i := 40) rfl))) (mvT hZ (hw _ (List.mem_of_getElem? (i := 41) rfl))) (notFace_of_selects (args := #[]) (mvT hZ (hw _ (List.mem_of_getElem? (i := 43) rfl)))) (mvT hZ (hw _ (List.mem_of_getElem? (i := 43) rfl))) (mvT hZ (hw _ (List.mem_of_getElem? (i := 42) rfl))) (by decide) (backOf (W := 0) (rm8 l Z a0 hw [] b23 b13 (f4_o0 (((p2.toUInt32 >>> ((4 : Int32) &&& 31).toUInt32).toInt32) &&& (3 : Int32)) (f0_v104 p2) (f4_o0 (((p2.toUInt32 >>> ((2 : Int32) &&& 31).toUInt32).toInt32) &&& (3 : Int32)) (f4 (p2 &&& (3 : Int32)) (0 : Int32) (0 : Int64)) (f4_o0 (p2 &&& (3 : Int32)) (0 : Int32) (0 : Int64)))) (f4_o0 (((p1.toUInt32 >>> ((4 : Int32) &&& 31).toUInt32).toInt32) &&& (3 : Int32)) (f0_v55 p1) (f4_o0 (((p1.toUInt32 >>> ((2 : Int32) &&& 31).toUInt32).toInt32) &&& (3 : Int32)) (f4 (p1 &&& (3 : Int32)) (0 : Int32) (0 : Int64)) (f4_o0 (p1 &&& (3 : Int32)) (0 : Int32) (0 : Int64)))) T95.heap n0 c96 c106 c103 c104) hZ (hw _ (List.mem_of_getElem? (i := 44) rfl)) (hw _ (List.mem_of_getElem? (i := 9) rfl)) (by decide) (by decide)) q109a q109c (g := (mkF m 208 #[.val (.int p1), .val (.int p2), .val (.int p3), .val (.int p4), .val (.ref r5), .val (.ref b13), .val (.ref b23), .val (.int (f0_v71 p1)), .val (.int (f0_v120 p2)), .val (.int (p3 &&& (3 : Int32))), .val (.ref b23), .val (.int (f0_s0_148 p1 p2)), .val (.int (f0_v202 p1 p2)), .unset] [(.ref b13), (.ref b23)])) rfl (by rw [hml]; rfl) (Steps.refl _) (argsL := [(.ref b13)]) (rest := []) (lenOf pd_6 rfl) rfl (by show 2 * 0 + _ ≤ _; exact Nat.le_of_eq rfl) (hb hby at_208) (fun _ _ => ⟨rfl, e108, (by decide : 3 + 0 ≤ _), (by decide : 3 + 0 ≤ _)⟩)
    dsimp only [Pt.U, Pt.locs, Pt.cells, Pt.slots] at X109 l109 y109 z109 st109 hQ109
    subst l109 y109 z109
    obtain ⟨rfl, N109q, e109⟩ := hQ109
    have N109 := Fr.app N108 N109q
    have pre6 : ∀ t, Steps p.tables e below (T109.setTop (mkF m 217 #[.val (.int p1), .val (.int p2), .val (.int p3), .val (.int p4), .val (.ref r5), .val (.ref b13), .val (.ref b23), .val (.int (f0_v71 p1)), .val (.int (f0_v120 p2)), .val (.int (p3 &&& (3 : Int32))), .val (.ref b23), .val (.int (f0_s0_148 p1 p2)), .val (.int (f0_v202 p1 p2)), .val (.int (f0_v211 p1 p2))] [(.int (f0_s0_148 p1 p2)), (.int (f0_v202 p1 p2))])) t → Steps p.tables e below (s₁.setTop (entryFrame m #[(.int p1), (.int p2), (.int p3), (.int p4)] maxLocals)) t := by
      intro t k
      refine pre3 t ?_
      show Steps p.tables e below (T95.setTop (mkF m 148 #[.val (.int p1), .val (.int p2), .val (.int p3), .val (.int p4), .val (.ref r5), .val (.ref b13), .val (.ref b23), .val (.int (f0_v71 p1)), .val (.int (f0_v120 p2)), .val (.int (p3 &&& (3 : Int32))), .val (.ref b23), .unset, .unset, .unset] [(.int (f0_s0_148 p1 p2))])) _
      refine XS.istore X95.here hx rfl (hb hby at_148) rfl (l' := #[.val (.int p1), .val (.int p2), .val (.int p3), .val (.int p4), .val (.ref r5), .val (.ref b13), .val (.ref b23), .val (.int (f0_v71 p1)), .val (.int (f0_v120 p2)), .val (.int (p3 &&& (3 : Int32))), .val (.ref b23), .val (.int (f0_s0_148 p1 p2)), .unset, .unset]) rfl ?_
      show Steps p.tables e below (T95.setTop (mkF m 150 #[.val (.int p1), .val (.int p2), .val (.int p3), .val (.int p4), .val (.ref r5), .val (.ref b13), .val (.ref b23), .val (.int (f0_v71 p1)), .val (.int (f0_v120 p2)), .val (.int (p3 &&& (3 : Int32))), .val (.ref b23), .val (.int (f0_s0_148 p1 p2)), .unset, .unset] [])) _
      refine XS.goto X95.here hx rfl (pc0 := 150) (pc' := 195) rfl (hb hby at_150) (by decide) (by decide) ?_
      show Steps p.tables e below (T95.setTop (mkF m 195 #[.val (.int p1), .val (.int p2), .val (.int p3), .val (.int p4), .val (.ref r5), .val (.ref b13), .val (.ref b23), .val (.int (f0_v71 p1)), .val (.int (f0_v120 p2)), .val (.int (p3 &&& (3 : Int32))), .val (.ref b23), .val (.int (f0_s0_148 p1 p2)), .unset, .unset] [])) _
      refine XS.aload X95.here hx rfl (hb hby at_195) rfl rfl ?_
      show Steps p.tables e below (T95.setTop (mkF m 197 #[.val (.int p1), .val (.int p2), .val (.int p3), .val (.int p4), .val (.ref r5), .val (.ref b13), .val (.ref b23), .val (.int (f0_v71 p1)), .val (.int (f0_v120 p2)), .val (.int (p3 &&& (3 : Int32))), .val (.ref b23), .val (.int (f0_s0_148 p1 p2)), .unset, .unset] [(.ref b13)])) _
      refine XS.aload X95.here hx rfl (hb hby at_197) rfl rfl ?_
      show Steps p.tables e below (T95.setTop (mkF m 199 #[.val (.int p1), .val (.int p2), .val (.int p3), .val (.int p4), .val (.ref r5), .val (.ref b13), .val (.ref b23), .val (.int (f0_v71 p1)), .val (.int (f0_v120 p2)), .val (.int (p3 &&& (3 : Int32))), .val (.ref b23), .val (.int (f0_s0_148 p1 p2)), .unset, .unset] [(.ref b23), (.ref b13)])) _
      refine st108.trans ?_
      show Steps p.tables e below (T108.setTop (mkF m 202 #[.val (.int p1), .val (.int p2), .val (.int p3), .val (.int p4), .val (.ref r5), .val (.ref b13), .val (.ref b23), .val (.int (f0_v71 p1)), .val (.int (f0_v120 p2)), .val (.int (p3 &&& (3 : Int32))), .val (.ref b23), .val (.int (f0_s0_148 p1 p2)), .unset, .unset] [(.int (f8 (f4_o0 (((p1.toUInt32 >>> ((4 : Int32) &&& 31).toUInt32).toInt32) &&& (3 : Int32)) (f0_v55 p1) (f4_o0 (((p1.toUInt32 >>> ((2 : Int32) &&& 31).toUInt32).toInt32) &&& (3 : Int32)) (f4 (p1 &&& (3 : Int32)) (0 : Int32) (0 : Int64)) (f4_o0 (p1 &&& (3 : Int32)) (0 : Int32) (0 : Int64)))) (f4_o0 (((p2.toUInt32 >>> ((4 : Int32) &&& 31).toUInt32).toInt32) &&& (3 : Int32)) (f0_v104 p2) (f4_o0 (((p2.toUInt32 >>> ((2 : Int32) &&& 31).toUInt32).toInt32) &&& (3 : Int32)) (f4 (p2 &&& (3 : Int32)) (0 : Int32) (0 : Int64)) (f4_o0 (p2 &&& (3 : Int32)) (0 : Int32) (0 : Int64))))))])) _
      refine XS.istore X108.here hx rfl (hb hby at_202) rfl (l' := #[.val (.int p1), .val (.int p2), .val (.int p3), .val (.int p4), .val (.ref r5), .val (.ref b13), .val (.ref b23), .val (.int (f0_v71 p1)), .val (.int (f0_v120 p2)), .val (.int (p3 &&& (3 : Int32))), .val (.ref b23), .val (.int (f0_s0_148 p1 p2)), .val (.int (f0_v202 p1 p2)), .unset]) rfl ?_
      show Steps p.tables e below (T108.setTop (mkF m 204 #[.val (.int p1), .val (.int p2), .val (.int p3), .val (.int p4), .val (.ref r5), .val (.ref b13), .val (.ref b23), .val (.int (f0_v71 p1)), .val (.int (f0_v120 p2)), .val (.int (p3 &&& (3 : Int32))), .val (.ref b23), .val (.int (f0_s0_148 p1 p2)), .val (.int (f0_v202 p1 p2)), .unset] [])) _
      refine XS.aload X108.here hx rfl (hb hby at_204) rfl rfl ?_
      show Steps p.tables e below (T108.setTop (mkF m 206 #[.val (.int p1), .val (.int p2), .val (.int p3), .val (.int p4), .val (.ref r5), .val (.ref b13), .val (.ref b23), .val (.int (f0_v71 p1)), .val (.int (f0_v120 p2)), .val (.int (p3 &&& (3 : Int32))), .val (.ref b23), .val (.int (f0_s0_148 p1 p2)), .val (.int (f0_v202 p1 p2)), .unset] [(.ref b23)])) _
      refine XS.aload X108.here hx rfl (hb hby at_206) rfl rfl ?_
      show Steps p.tables e below (T108.setTop (mkF m 208 #[.val (.int p1), .val (.int p2), .val (.int p3), .val (.int p4), .val (.ref r5), .val (.ref b13), .val (.ref b23), .val (.int (f0_v71 p1)), .val (.int (f0_v120 p2)), .val (.int (p3 &&& (3 : Int32))), .val (.ref b23), .val (.int (f0_s0_148 p1 p2)), .val (.int (f0_v202 p1 p2)), .unset] [(.ref b13), (.ref b23)])) _
      refine st109.trans ?_
      show Steps p.tables e below (T109.setTop (mkF m 211 #[.val (.int p1), .val (.int p2), .val (.int p3), .val (.int p4), .val (.ref r5), .val (.ref b13), .val (.ref b23), .val (.int (f0_v71 p1)), .val (.int (f0_v120 p2)), .val (.int (p3 &&& (3 : Int32))), .val (.ref b23), .val (.int (f0_s0_148 p1 p2)), .val (.int (f0_v202 p1 p2)), .unset] [(.int (f8 (f4_o0 (((p2.toUInt32 >>> ((4 : Int32) &&& 31).toUInt32).toInt32) &&& (3 : Int32)) (f0_v104 p2) (f4_o0 (((p2.toUInt32 >>> ((2 : Int32) &&& 31).toUInt32).toInt32) &&& (3 : Int32)) (f4 (p2 &&& (3 : Int32)) (0 : Int32) (0 : Int64)) (f4_o0 (p2 &&& (3 : Int32)) (0 : Int32) (0 : Int64)))) (f4_o0 (((p1.toUInt32 >>> ((4 : Int32) &&& 31).toUInt32).toInt32) &&& (3 : Int32)) (f0_v55 p1) (f4_o0 (((p1.toUInt32 >>> ((2 : Int32) &&& 31).toUInt32).toInt32) &&& (3 : Int32)) (f4 (p1 &&& (3 : Int32)) (0 : Int32) (0 : Int64)) (f4_o0 (p1 &&& (3 : Int32)) (0 : Int32) (0 : Int64))))))])) _
      refine XS.istore X109.here hx rfl (hb hby at_211) rfl (l' := #[.val (.int p1), .val (.int p2), .val (.int p3), .val (.int p4), .val (.ref r5), .val (.ref b13), .val (.ref b23), .val (.int (f0_v71 p1)), .val (.int (f0_v120 p2)), .val (.int (p3 &&& (3 : Int32))), .val (.ref b23), .val (.int (f0_s0_148 p1 p2)), .val (.int (f0_v202 p1 p2)), .val (.int (f0_v211 p1 p2))]) rfl ?_
      show Steps p.tables e below (T109.setTop (mkF m 213 #[.val (.int p1), .val (.int p2), .val (.int p3), .val (.int p4), .val (.ref r5), .val (.ref b13), .val (.ref b23), .val (.int (f0_v71 p1)), .val (.int (f0_v120 p2)), .val (.int (p3 &&& (3 : Int32))), .val (.ref b23), .val (.int (f0_s0_148 p1 p2)), .val (.int (f0_v202 p1 p2)), .val (.int (f0_v211 p1 p2))] [])) _
      refine XS.iload X109.here hx rfl (hb hby at_213) rfl ?_
      show Steps p.tables e below (T109.setTop (mkF m 215 #[.val (.int p1), .val (.int p2), .val (.int p3), .val (.int p4), .val (.ref r5), .val (.ref b13), .val (.ref b23), .val (.int (f0_v71 p1)), .val (.int (f0_v120 p2)), .val (.int (p3 &&& (3 : Int32))), .val (.ref b23), .val (.int (f0_s0_148 p1 p2)), .val (.int (f0_v202 p1 p2)), .val (.int (f0_v211 p1 p2))] [(.int (f0_v202 p1 p2))])) _
      refine XS.iload X109.here hx rfl (hb hby at_215) rfl ?_
      exact k
    by_cases hc217 : (f0_v202 p1 p2) = (f0_s0_148 p1 p2)
    · have pre7 : ∀ t, Steps p.tables e below (T109.setTop (mkF m 226 #[.val (.int p1), .val (.int p2), .val (.int p3), .val (.int p4), .val (.ref r5), .val (.ref b13), .val (.ref b23), .val (.int (f0_v71 p1)), .val (.int (f0_v120 p2)), .val (.int (p3 &&& (3 : Int32))), .val (.ref b23), .val (.int (f0_s0_148 p1 p2)), .val (.int (f0_v202 p1 p2)), .val (.int (f0_v211 p1 p2))] [(.int (f0_v120 p2)), (.int (f0_v71 p1)), (.int (f0_v211 p1 p2))])) t → Steps p.tables e below (s₁.setTop (entryFrame m #[(.int p1), (.int p2), (.int p3), (.int p4)] maxLocals)) t := by
        intro t k
        refine pre6 t ?_
        show Steps p.tables e below (T109.setTop (mkF m 217 #[.val (.int p1), .val (.int p2), .val (.int p3), .val (.int p4), .val (.ref r5), .val (.ref b13), .val (.ref b23), .val (.int (f0_v71 p1)), .val (.int (f0_v120 p2)), .val (.int (p3 &&& (3 : Int32))), .val (.ref b23), .val (.int (f0_s0_148 p1 p2)), .val (.int (f0_v202 p1 p2)), .val (.int (f0_v211 p1 p2))] [(.int (f0_s0_148 p1 p2)), (.int (f0_v202 p1 p2))])) _
        refine XS.icmpNo X109.here hx rfl (hb hby at_217) rfl (teq hc217).2 ?_
        show Steps p.tables e below (T109.setTop (mkF m 220 #[.val (.int p1), .val (.int p2), .val (.int p3), .val (.int p4), .val (.ref r5), .val (.ref b13), .val (.ref b23), .val (.int (f0_v71 p1)), .val (.int (f0_v120 p2)), .val (.int (p3 &&& (3 : Int32))), .val (.ref b23), .val (.int (f0_s0_148 p1 p2)), .val (.int (f0_v202 p1 p2)), .val (.int (f0_v211 p1 p2))] [])) _
        refine XS.iload X109.here hx rfl (hb hby at_220) rfl ?_
        show Steps p.tables e below (T109.setTop (mkF m 222 #[.val (.int p1), .val (.int p2), .val (.int p3), .val (.int p4), .val (.ref r5), .val (.ref b13), .val (.ref b23), .val (.int (f0_v71 p1)), .val (.int (f0_v120 p2)), .val (.int (p3 &&& (3 : Int32))), .val (.ref b23), .val (.int (f0_s0_148 p1 p2)), .val (.int (f0_v202 p1 p2)), .val (.int (f0_v211 p1 p2))] [(.int (f0_v211 p1 p2))])) _
        refine XS.iload X109.here hx rfl (hb hby at_222) rfl ?_
        show Steps p.tables e below (T109.setTop (mkF m 224 #[.val (.int p1), .val (.int p2), .val (.int p3), .val (.int p4), .val (.ref r5), .val (.ref b13), .val (.ref b23), .val (.int (f0_v71 p1)), .val (.int (f0_v120 p2)), .val (.int (p3 &&& (3 : Int32))), .val (.ref b23), .val (.int (f0_s0_148 p1 p2)), .val (.int (f0_v202 p1 p2)), .val (.int (f0_v211 p1 p2))] [(.int (f0_v71 p1)), (.int (f0_v211 p1 p2))])) _
        refine XS.iload X109.here hx rfl (hb hby at_224) rfl ?_
        exact k
      have pre8 : ∀ t, Steps p.tables e below (T109.setTop (mkF m 234 #[.val (.int p1), .val (.int p2), .val (.int p3), .val (.int p4), .val (.ref r5), .val (.ref b13), .val (.ref b23), .val (.int (f0_v71 p1)), .val (.int (f0_v120 p2)), .val (.int (p3 &&& (3 : Int32))), .val (.ref b23), .val (.int (f0_s0_148 p1 p2)), .val (.int (f0_v202 p1 p2)), .val (.int (f0_v211 p1 p2))] [(.int (f0_s0_234 p1 p2)), (.int (f0_v211 p1 p2))])) t → Steps p.tables e below (s₁.setTop (entryFrame m #[(.int p1), (.int p2), (.int p3), (.int p4)] maxLocals)) t := by
        intro t k
        by_cases hc226 : (f0_v71 p1) = (f0_v120 p2)
        · have eq9 := (show (f0_s0_234 p1 p2) = (1 : Int32) from by unfold f0_s0_234; simp only [if_pos hc226])
          try rw [eq9] at k
          refine pre7 t ?_
          show Steps p.tables e below (T109.setTop (mkF m 226 #[.val (.int p1), .val (.int p2), .val (.int p3), .val (.int p4), .val (.ref r5), .val (.ref b13), .val (.ref b23), .val (.int (f0_v71 p1)), .val (.int (f0_v120 p2)), .val (.int (p3 &&& (3 : Int32))), .val (.ref b23), .val (.int (f0_s0_148 p1 p2)), .val (.int (f0_v202 p1 p2)), .val (.int (f0_v211 p1 p2))] [(.int (f0_v120 p2)), (.int (f0_v71 p1)), (.int (f0_v211 p1 p2))])) _
          refine XS.icmpNo X109.here hx rfl (hb hby at_226) rfl (teq hc226).2 ?_
          show Steps p.tables e below (T109.setTop (mkF m 229 #[.val (.int p1), .val (.int p2), .val (.int p3), .val (.int p4), .val (.ref r5), .val (.ref b13), .val (.ref b23), .val (.int (f0_v71 p1)), .val (.int (f0_v120 p2)), .val (.int (p3 &&& (3 : Int32))), .val (.ref b23), .val (.int (f0_s0_148 p1 p2)), .val (.int (f0_v202 p1 p2)), .val (.int (f0_v211 p1 p2))] [(.int (f0_v211 p1 p2))])) _
          refine XS.iconst X109.here hx rfl (hb hby at_229) ?_
          show Steps p.tables e below (T109.setTop (mkF m 230 #[.val (.int p1), .val (.int p2), .val (.int p3), .val (.int p4), .val (.ref r5), .val (.ref b13), .val (.ref b23), .val (.int (f0_v71 p1)), .val (.int (f0_v120 p2)), .val (.int (p3 &&& (3 : Int32))), .val (.ref b23), .val (.int (f0_s0_148 p1 p2)), .val (.int (f0_v202 p1 p2)), .val (.int (f0_v211 p1 p2))] [(.int (1 : Int32)), (.int (f0_v211 p1 p2))])) _
          refine XS.goto X109.here hx rfl (pc0 := 230) (pc' := 234) rfl (hb hby at_230) (by decide) (by decide) ?_
          exact k
        · have eq10 := (show (f0_s0_234 p1 p2) = (0 : Int32) from by unfold f0_s0_234; simp only [if_neg hc226])
          try rw [eq10] at k
          refine pre7 t ?_
          show Steps p.tables e below (T109.setTop (mkF m 226 #[.val (.int p1), .val (.int p2), .val (.int p3), .val (.int p4), .val (.ref r5), .val (.ref b13), .val (.ref b23), .val (.int (f0_v71 p1)), .val (.int (f0_v120 p2)), .val (.int (p3 &&& (3 : Int32))), .val (.ref b23), .val (.int (f0_s0_148 p1 p2)), .val (.int (f0_v202 p1 p2)), .val (.int (f0_v211 p1 p2))] [(.int (f0_v120 p2)), (.int (f0_v71 p1)), (.int (f0_v211 p1 p2))])) _
          refine XS.icmpYes X109.here hx rfl (pc0 := 226) (pc' := 233) rfl (hb hby at_226) rfl (feq hc226).2 (by decide) (by decide) ?_
          show Steps p.tables e below (T109.setTop (mkF m 233 #[.val (.int p1), .val (.int p2), .val (.int p3), .val (.int p4), .val (.ref r5), .val (.ref b13), .val (.ref b23), .val (.int (f0_v71 p1)), .val (.int (f0_v120 p2)), .val (.int (p3 &&& (3 : Int32))), .val (.ref b23), .val (.int (f0_s0_148 p1 p2)), .val (.int (f0_v202 p1 p2)), .val (.int (f0_v211 p1 p2))] [(.int (f0_v211 p1 p2))])) _
          refine XS.iconst X109.here hx rfl (hb hby at_233) ?_
          exact k
      by_cases hc234 : (f0_v211 p1 p2) = (f0_s0_234 p1 p2)
      · have eq11 : (f0 p1 p2 p3 p4 w_high z_w_ic z_w_lc) = (1 : Int32) := by unfold f0; simp only [if_pos hc129, if_pos hc217, if_pos hc234]
        obtain ⟨fs, hr, hrun, hended, hW, hsame⟩ := X109.leave (v := some (.int (1 : Int32))) (fun h => by rw [Bd.returns] at h; cases h)
        refine ⟨_, _, pre8 _ ?_, hrun, hended, _, _, rfl, ?_, ⟨_, rfl⟩, hW, hsame.mono (by decide) (by decide)⟩
        · show Steps p.tables e below (T109.setTop (mkF m 234 #[.val (.int p1), .val (.int p2), .val (.int p3), .val (.int p4), .val (.ref r5), .val (.ref b13), .val (.ref b23), .val (.int (f0_v71 p1)), .val (.int (f0_v120 p2)), .val (.int (p3 &&& (3 : Int32))), .val (.ref b23), .val (.int (f0_s0_148 p1 p2)), .val (.int (f0_v202 p1 p2)), .val (.int (f0_v211 p1 p2))] [(.int (f0_s0_234 p1 p2)), (.int (f0_v211 p1 p2))])) _
          refine XS.icmpNo X109.here hx rfl (hb hby at_234) rfl (teq hc234).2 ?_
          show Steps p.tables e below (T109.setTop (mkF m 237 #[.val (.int p1), .val (.int p2), .val (.int p3), .val (.int p4), .val (.ref r5), .val (.ref b13), .val (.ref b23), .val (.int (f0_v71 p1)), .val (.int (f0_v120 p2)), .val (.int (p3 &&& (3 : Int32))), .val (.ref b23), .val (.int (f0_s0_148 p1 p2)), .val (.int (f0_v202 p1 p2)), .val (.int (f0_v211 p1 p2))] [])) _
          refine XS.iconst X109.here hx rfl (hb hby at_237) ?_
          show Steps p.tables e below (T109.setTop (mkF m 238 #[.val (.int p1), .val (.int p2), .val (.int p3), .val (.int p4), .val (.ref r5), .val (.ref b13), .val (.ref b23), .val (.int (f0_v71 p1)), .val (.int (f0_v120 p2)), .val (.int (p3 &&& (3 : Int32))), .val (.ref b23), .val (.int (f0_s0_148 p1 p2)), .val (.int (f0_v202 p1 p2)), .val (.int (f0_v211 p1 p2))] [(.int (1 : Int32))])) _
          refine XS.goto X109.here hx rfl (pc0 := 238) (pc' := 242) rfl (hb hby at_238) (by decide) (by decide) ?_
          show Steps p.tables e below (T109.setTop (mkF m 242 #[.val (.int p1), .val (.int p2), .val (.int p3), .val (.int p4), .val (.ref r5), .val (.ref b13), .val (.ref b23), .val (.int (f0_v71 p1)), .val (.int (f0_v120 p2)), .val (.int (p3 &&& (3 : Int32))), .val (.ref b23), .val (.int (f0_s0_148 p1 p2)), .val (.int (f0_v202 p1 p2)), .val (.int (f0_v211 p1 p2))] [(.int (1 : Int32))])) _
          exact retN X109 hx (t := .boolean) Bd.returns (by simp) (hb hby at_242) hr
        · show Q0 Z p1 p2 p3 p4 w_high w_ic z_w_ic c_w_ic w_lc z_w_lc c_w_lc h0 n0 _ T109.heap _
          rw [e109]
          exact ⟨by rw [eq11], N109, trivial⟩
      · have eq12 : (f0 p1 p2 p3 p4 w_high z_w_ic z_w_lc) = (0 : Int32) := by unfold f0; simp only [if_pos hc129, if_pos hc217, if_neg hc234]
        obtain ⟨fs, hr, hrun, hended, hW, hsame⟩ := X109.leave (v := some (.int (0 : Int32))) (fun h => by rw [Bd.returns] at h; cases h)
        refine ⟨_, _, pre8 _ ?_, hrun, hended, _, _, rfl, ?_, ⟨_, rfl⟩, hW, hsame.mono (by decide) (by decide)⟩
        · show Steps p.tables e below (T109.setTop (mkF m 234 #[.val (.int p1), .val (.int p2), .val (.int p3), .val (.int p4), .val (.ref r5), .val (.ref b13), .val (.ref b23), .val (.int (f0_v71 p1)), .val (.int (f0_v120 p2)), .val (.int (p3 &&& (3 : Int32))), .val (.ref b23), .val (.int (f0_s0_148 p1 p2)), .val (.int (f0_v202 p1 p2)), .val (.int (f0_v211 p1 p2))] [(.int (f0_s0_234 p1 p2)), (.int (f0_v211 p1 p2))])) _
          refine XS.icmpYes X109.here hx rfl (pc0 := 234) (pc' := 241) rfl (hb hby at_234) rfl (feq hc234).2 (by decide) (by decide) ?_
          show Steps p.tables e below (T109.setTop (mkF m 241 #[.val (.int p1), .val (.int p2), .val (.int p3), .val (.int p4), .val (.ref r5), .val (.ref b13), .val (.ref b23), .val (.int (f0_v71 p1)), .val (.int (f0_v120 p2)), .val (.int (p3 &&& (3 : Int32))), .val (.ref b23), .val (.int (f0_s0_148 p1 p2)), .val (.int (f0_v202 p1 p2)), .val (.int (f0_v211 p1 p2))] [])) _
          refine XS.iconst X109.here hx rfl (hb hby at_241) ?_
          show Steps p.tables e below (T109.setTop (mkF m 242 #[.val (.int p1), .val (.int p2), .val (.int p3), .val (.int p4), .val (.ref r5), .val (.ref b13), .val (.ref b23), .val (.int (f0_v71 p1)), .val (.int (f0_v120 p2)), .val (.int (p3 &&& (3 : Int32))), .val (.ref b23), .val (.int (f0_s0_148 p1 p2)), .val (.int (f0_v202 p1 p2)), .val (.int (f0_v211 p1 p2))] [(.int (0 : Int32))])) _
          exact retN X109 hx (t := .boolean) Bd.returns (by simp) (hb hby at_242) hr
        · show Q0 Z p1 p2 p3 p4 w_high w_ic z_w_ic c_w_ic w_lc z_w_lc c_w_lc h0 n0 _ T109.heap _
          rw [e109]
          exact ⟨by rw [eq12], N109, trivial⟩
    · have eq13 : (f0 p1 p2 p3 p4 w_high z_w_ic z_w_lc) = (0 : Int32) := by unfold f0; simp only [if_pos hc129, if_neg hc217]
      obtain ⟨fs, hr, hrun, hended, hW, hsame⟩ := X109.leave (v := some (.int (0 : Int32))) (fun h => by rw [Bd.returns] at h; cases h)
      refine ⟨_, _, pre6 _ ?_, hrun, hended, _, _, rfl, ?_, ⟨_, rfl⟩, hW, hsame.mono (by decide) (by decide)⟩
      · show Steps p.tables e below (T109.setTop (mkF m 217 #[.val (.int p1), .val (.int p2), .val (.int p3), .val (.int p4), .val (.ref r5), .val (.ref b13), .val (.ref b23), .val (.int (f0_v71 p1)), .val (.int (f0_v120 p2)), .val (.int (p3 &&& (3 : Int32))), .val (.ref b23), .val (.int (f0_s0_148 p1 p2)), .val (.int (f0_v202 p1 p2)), .val (.int (f0_v211 p1 p2))] [(.int (f0_s0_148 p1 p2)), (.int (f0_v202 p1 p2))])) _
        refine XS.icmpYes X109.here hx rfl (pc0 := 217) (pc' := 241) rfl (hb hby at_217) rfl (feq hc217).2 (by decide) (by decide) ?_
        show Steps p.tables e below (T109.setTop (mkF m 241 #[.val (.int p1), .val (.int p2), .val (.int p3), .val (.int p4), .val (.ref r5), .val (.ref b13), .val (.ref b23), .val (.int (f0_v71 p1)), .val (.int (f0_v120 p2)), .val (.int (p3 &&& (3 : Int32))), .val (.ref b23), .val (.int (f0_s0_148 p1 p2)), .val (.int (f0_v202 p1 p2)), .val (.int (f0_v211 p1 p2))] [])) _
        refine XS.iconst X109.here hx rfl (hb hby at_241) ?_
        show Steps p.tables e below (T109.setTop (mkF m 242 #[.val (.int p1), .val (.int p2), .val (.int p3), .val (.int p4), .val (.ref r5), .val (.ref b13), .val (.ref b23), .val (.int (f0_v71 p1)), .val (.int (f0_v120 p2)), .val (.int (p3 &&& (3 : Int32))), .val (.ref b23), .val (.int (f0_s0_148 p1 p2)), .val (.int (f0_v202 p1 p2)), .val (.int (f0_v211 p1 p2))] [(.int (0 : Int32))])) _
        exact retN X109 hx (t := .boolean) Bd.returns (by simp) (hb hby at_242) hr
      · show Q0 Z p1 p2 p3 p4 w_high w_ic z_w_ic c_w_ic w_lc z_w_lc c_w_lc h0 n0 _ T109.heap _
        rw [e109]
        exact ⟨by rw [eq13], N109, trivial⟩
  · have pre14 : ∀ t, Steps p.tables e below (T95.setTop (mkF m 156 #[.val (.int p1), .val (.int p2), .val (.int p3), .val (.int p4), .val (.ref r5), .val (.ref b13), .val (.ref b23), .val (.int (f0_v71 p1)), .val (.int (f0_v120 p2)), .val (.int (p3 &&& (3 : Int32))), .unset, .unset, .unset, .unset] [(.int (1 : Int32)), (.int (p3 &&& (3 : Int32)))])) t → Steps p.tables e below (s₁.setTop (entryFrame m #[(.int p1), (.int p2), (.int p3), (.int p4)] maxLocals)) t := by
      intro t k
      refine pre1 t ?_
      show Steps p.tables e below (T95.setTop (mkF m 129 #[.val (.int p1), .val (.int p2), .val (.int p3), .val (.int p4), .val (.ref r5), .val (.ref b13), .val (.ref b23), .val (.int (f0_v71 p1)), .val (.int (f0_v120 p2)), .val (.int (p3 &&& (3 : Int32))), .unset, .unset, .unset, .unset] [(.int (p3 &&& (3 : Int32)))])) _
      refine XS.ifYes X95.here hx rfl (pc0 := 129) (pc' := 153) rfl (hb hby at_129) rfl ((if0 _ _).trans (feq hc129).2) (by decide) (by decide) ?_
      show Steps p.tables e below (T95.setTop (mkF m 153 #[.val (.int p1), .val (.int p2), .val (.int p3), .val (.int p4), .val (.ref r5), .val (.ref b13), .val (.ref b23), .val (.int (f0_v71 p1)), .val (.int (f0_v120 p2)), .val (.int (p3 &&& (3 : Int32))), .unset, .unset, .unset, .unset] [])) _
      refine XS.iload X95.here hx rfl (hb hby at_153) rfl ?_
      show Steps p.tables e below (T95.setTop (mkF m 155 #[.val (.int p1), .val (.int p2), .val (.int p3), .val (.int p4), .val (.ref r5), .val (.ref b13), .val (.ref b23), .val (.int (f0_v71 p1)), .val (.int (f0_v120 p2)), .val (.int (p3 &&& (3 : Int32))), .unset, .unset, .unset, .unset] [(.int (p3 &&& (3 : Int32)))])) _
      refine XS.iconst X95.here hx rfl (hb hby at_155) ?_
      exact k
    by_cases hc156 : (p3 &&& (3 : Int32)) = (1 : Int32)
    · obtain ⟨cq111, kq111, q111a, q111b, q111c⟩ := isOf hZ rfl c103
      obtain ⟨_, _, ⟨T111, L111, k111, n111⟩, -, X111, ⟨Lc111, hQ111, l111, y111, z111⟩, st111⟩ := X95.virtualBack hx (y := (⟨"com/example/millrace/millrace/runtime/aggregate/Count", "equals", "(Ljava/lang/Object;)Z"⟩ : MethodName)) (z := (⟨"com/example/millrace/millrace/runtime/aggregate/Count", "equals", "(Ljava/lang/Object;)Z"⟩ : MethodName)) hown (mvT hZ (hw _ (List.mem_of_getElem? (i := 40) rfl))) (mvT hZ (hw _ (List.mem_of_getElem? (i := 41) rfl))) (notFace_of_selects (args := #[]) (mvT hZ (hw _ (List.mem_of_getElem? (i := 43) rfl)))) (mvT hZ (hw _ (List.mem_of_getElem? (i := 43) rfl))) (mvT hZ (hw _ (List.mem_of_getElem? (i := 42) rfl))) (by decide) (backOf (W := 0) (rm8n l Z a0 hw [] b13 T95.heap n0 c96 ) hZ (hw _ (List.mem_of_getElem? (i := 44) rfl)) (hw _ (List.mem_of_getElem? (i := 9) rfl)) (by decide) (by decide)) q111a q111c (g := (mkF m 199 #[.val (.int p1), .val (.int p2), .val (.int p3), .val (.int p4), .val (.ref r5), .val (.ref b13), .val (.ref b23), .val (.int (f0_v71 p1)), .val (.int (f0_v120 p2)), .val (.int (p3 &&& (3 : Int32))), .val .null, .val (.int (0 : Int32)), .unset, .unset] [.null, (.ref b13)])) rfl (by rw [hml]; rfl) (Steps.refl _) (argsL := [.null]) (rest := []) (lenOf pd_6 rfl) rfl (by show 2 * 0 + _ ≤ _; exact Nat.le_of_eq rfl) (hb hby at_199) (fun _ _ => ⟨rfl, rfl, (by decide : 3 + 0 ≤ _), (by decide : 3 + 0 ≤ _)⟩)
      dsimp only [Pt.U, Pt.locs, Pt.cells, Pt.slots] at X111 l111 y111 z111 st111 hQ111
      subst l111 y111 z111
      obtain ⟨rfl, N111q, e111⟩ := hQ111
      have N111 := Fr.app N95 N111q
      obtain ⟨cq112, kq112, q112a, q112b, q112c⟩ := isOf hZ e111 c105
      obtain ⟨_, _, ⟨T112, L112, k112, n112⟩, -, X112, ⟨Lc112, hQ112, l112, y112, z112⟩, st112⟩ := X111.virtualBack hx (y := (⟨"com/example/millrace/millrace/runtime/aggregate/Count", "equals", "(Ljava/lang/Object;)Z"⟩ : MethodName)) (z := (⟨"com/example/millrace/millrace/runtime/aggregate/Count", "equals", "(Ljava/lang/Object;)Z"⟩ : MethodName)) hown (mvT hZ (hw _ (List.mem_of_getElem? (i := 40) rfl))) (mvT hZ (hw _ (List.mem_of_getElem? (i := 41) rfl))) (notFace_of_selects (args := #[]) (mvT hZ (hw _ (List.mem_of_getElem? (i := 43) rfl)))) (mvT hZ (hw _ (List.mem_of_getElem? (i := 43) rfl))) (mvT hZ (hw _ (List.mem_of_getElem? (i := 42) rfl))) (by decide) (backOf (W := 0) (rm8 l Z a0 hw [] b23 b13 (f4_o0 (((p2.toUInt32 >>> ((4 : Int32) &&& 31).toUInt32).toInt32) &&& (3 : Int32)) (f0_v104 p2) (f4_o0 (((p2.toUInt32 >>> ((2 : Int32) &&& 31).toUInt32).toInt32) &&& (3 : Int32)) (f4 (p2 &&& (3 : Int32)) (0 : Int32) (0 : Int64)) (f4_o0 (p2 &&& (3 : Int32)) (0 : Int32) (0 : Int64)))) (f4_o0 (((p1.toUInt32 >>> ((4 : Int32) &&& 31).toUInt32).toInt32) &&& (3 : Int32)) (f0_v55 p1) (f4_o0 (((p1.toUInt32 >>> ((2 : Int32) &&& 31).toUInt32).toInt32) &&& (3 : Int32)) (f4 (p1 &&& (3 : Int32)) (0 : Int32) (0 : Int64)) (f4_o0 (p1 &&& (3 : Int32)) (0 : Int32) (0 : Int64)))) T95.heap n0 c96 c106 c103 c104) hZ (hw _ (List.mem_of_getElem? (i := 44) rfl)) (hw _ (List.mem_of_getElem? (i := 9) rfl)) (by decide) (by decide)) q112a q112c (g := (mkF m 208 #[.val (.int p1), .val (.int p2), .val (.int p3), .val (.int p4), .val (.ref r5), .val (.ref b13), .val (.ref b23), .val (.int (f0_v71 p1)), .val (.int (f0_v120 p2)), .val (.int (p3 &&& (3 : Int32))), .val .null, .val (.int (0 : Int32)), .val (.int f8n), .unset] [(.ref b13), (.ref b23)])) rfl (by rw [hml]; rfl) (Steps.refl _) (argsL := [(.ref b13)]) (rest := []) (lenOf pd_6 rfl) rfl (by show 2 * 0 + _ ≤ _; exact Nat.le_of_eq rfl) (hb hby at_208) (fun _ _ => ⟨rfl, e111, (by decide : 3 + 0 ≤ _), (by decide : 3 + 0 ≤ _)⟩)
      dsimp only [Pt.U, Pt.locs, Pt.cells, Pt.slots] at X112 l112 y112 z112 st112 hQ112
      subst l112 y112 z112
      obtain ⟨rfl, N112q, e112⟩ := hQ112
      have N112 := Fr.app N111 N112q
      have pre15 : ∀ t, Steps p.tables e below (T112.setTop (mkF m 217 #[.val (.int p1), .val (.int p2), .val (.int p3), .val (.int p4), .val (.ref r5), .val (.ref b13), .val (.ref b23), .val (.int (f0_v71 p1)), .val (.int (f0_v120 p2)), .val (.int (p3 &&& (3 : Int32))), .val .null, .val (.int (0 : Int32)), .val (.int f8n), .val (.int (f0_v211 p1 p2))] [(.int (0 : Int32)), (.int f8n)])) t → Steps p.tables e below (s₁.setTop (entryFrame m #[(.int p1), (.int p2), (.int p3), (.int p4)] maxLocals)) t := by
        intro t k
        refine pre14 t ?_
        show Steps p.tables e below (T95.setTop (mkF m 156 #[.val (.int p1), .val (.int p2), .val (.int p3), .val (.int p4), .val (.ref r5), .val (.ref b13), .val (.ref b23), .val (.int (f0_v71 p1)), .val (.int (f0_v120 p2)), .val (.int (p3 &&& (3 : Int32))), .unset, .unset, .unset, .unset] [(.int (1 : Int32)), (.int (p3 &&& (3 : Int32)))])) _
        refine XS.icmpNo X95.here hx rfl (hb hby at_156) rfl (teq hc156).2 ?_
        show Steps p.tables e below (T95.setTop (mkF m 159 #[.val (.int p1), .val (.int p2), .val (.int p3), .val (.int p4), .val (.ref r5), .val (.ref b13), .val (.ref b23), .val (.int (f0_v71 p1)), .val (.int (f0_v120 p2)), .val (.int (p3 &&& (3 : Int32))), .unset, .unset, .unset, .unset] [])) _
        refine XS.aconstNull X95.here hx rfl (hb hby at_159) ?_
        show Steps p.tables e below (T95.setTop (mkF m 160 #[.val (.int p1), .val (.int p2), .val (.int p3), .val (.int p4), .val (.ref r5), .val (.ref b13), .val (.ref b23), .val (.int (f0_v71 p1)), .val (.int (f0_v120 p2)), .val (.int (p3 &&& (3 : Int32))), .unset, .unset, .unset, .unset] [.null])) _
        refine XS.astore X95.here hx rfl (hb hby at_160) rfl rfl (l' := #[.val (.int p1), .val (.int p2), .val (.int p3), .val (.int p4), .val (.ref r5), .val (.ref b13), .val (.ref b23), .val (.int (f0_v71 p1)), .val (.int (f0_v120 p2)), .val (.int (p3 &&& (3 : Int32))), .val .null, .unset, .unset, .unset]) rfl ?_
        show Steps p.tables e below (T95.setTop (mkF m 162 #[.val (.int p1), .val (.int p2), .val (.int p3), .val (.int p4), .val (.ref r5), .val (.ref b13), .val (.ref b23), .val (.int (f0_v71 p1)), .val (.int (f0_v120 p2)), .val (.int (p3 &&& (3 : Int32))), .val .null, .unset, .unset, .unset] [])) _
        refine XS.iconst X95.here hx rfl (hb hby at_162) ?_
        show Steps p.tables e below (T95.setTop (mkF m 163 #[.val (.int p1), .val (.int p2), .val (.int p3), .val (.int p4), .val (.ref r5), .val (.ref b13), .val (.ref b23), .val (.int (f0_v71 p1)), .val (.int (f0_v120 p2)), .val (.int (p3 &&& (3 : Int32))), .val .null, .unset, .unset, .unset] [(.int (0 : Int32))])) _
        refine XS.istore X95.here hx rfl (hb hby at_163) rfl (l' := #[.val (.int p1), .val (.int p2), .val (.int p3), .val (.int p4), .val (.ref r5), .val (.ref b13), .val (.ref b23), .val (.int (f0_v71 p1)), .val (.int (f0_v120 p2)), .val (.int (p3 &&& (3 : Int32))), .val .null, .val (.int (0 : Int32)), .unset, .unset]) rfl ?_
        show Steps p.tables e below (T95.setTop (mkF m 165 #[.val (.int p1), .val (.int p2), .val (.int p3), .val (.int p4), .val (.ref r5), .val (.ref b13), .val (.ref b23), .val (.int (f0_v71 p1)), .val (.int (f0_v120 p2)), .val (.int (p3 &&& (3 : Int32))), .val .null, .val (.int (0 : Int32)), .unset, .unset] [])) _
        refine XS.goto X95.here hx rfl (pc0 := 165) (pc' := 195) rfl (hb hby at_165) (by decide) (by decide) ?_
        show Steps p.tables e below (T95.setTop (mkF m 195 #[.val (.int p1), .val (.int p2), .val (.int p3), .val (.int p4), .val (.ref r5), .val (.ref b13), .val (.ref b23), .val (.int (f0_v71 p1)), .val (.int (f0_v120 p2)), .val (.int (p3 &&& (3 : Int32))), .val .null, .val (.int (0 : Int32)), .unset, .unset] [])) _
        refine XS.aload X95.here hx rfl (hb hby at_195) rfl rfl ?_
        show Steps p.tables e below (T95.setTop (mkF m 197 #[.val (.int p1), .val (.int p2), .val (.int p3), .val (.int p4), .val (.ref r5), .val (.ref b13), .val (.ref b23), .val (.int (f0_v71 p1)), .val (.int (f0_v120 p2)), .val (.int (p3 &&& (3 : Int32))), .val .null, .val (.int (0 : Int32)), .unset, .unset] [(.ref b13)])) _
        refine XS.aload X95.here hx rfl (hb hby at_197) rfl rfl ?_
        show Steps p.tables e below (T95.setTop (mkF m 199 #[.val (.int p1), .val (.int p2), .val (.int p3), .val (.int p4), .val (.ref r5), .val (.ref b13), .val (.ref b23), .val (.int (f0_v71 p1)), .val (.int (f0_v120 p2)), .val (.int (p3 &&& (3 : Int32))), .val .null, .val (.int (0 : Int32)), .unset, .unset] [.null, (.ref b13)])) _
        refine st111.trans ?_
        show Steps p.tables e below (T111.setTop (mkF m 202 #[.val (.int p1), .val (.int p2), .val (.int p3), .val (.int p4), .val (.ref r5), .val (.ref b13), .val (.ref b23), .val (.int (f0_v71 p1)), .val (.int (f0_v120 p2)), .val (.int (p3 &&& (3 : Int32))), .val .null, .val (.int (0 : Int32)), .unset, .unset] [(.int f8n)])) _
        refine XS.istore X111.here hx rfl (hb hby at_202) rfl (l' := #[.val (.int p1), .val (.int p2), .val (.int p3), .val (.int p4), .val (.ref r5), .val (.ref b13), .val (.ref b23), .val (.int (f0_v71 p1)), .val (.int (f0_v120 p2)), .val (.int (p3 &&& (3 : Int32))), .val .null, .val (.int (0 : Int32)), .val (.int f8n), .unset]) rfl ?_
        show Steps p.tables e below (T111.setTop (mkF m 204 #[.val (.int p1), .val (.int p2), .val (.int p3), .val (.int p4), .val (.ref r5), .val (.ref b13), .val (.ref b23), .val (.int (f0_v71 p1)), .val (.int (f0_v120 p2)), .val (.int (p3 &&& (3 : Int32))), .val .null, .val (.int (0 : Int32)), .val (.int f8n), .unset] [])) _
        refine XS.aload X111.here hx rfl (hb hby at_204) rfl rfl ?_
        show Steps p.tables e below (T111.setTop (mkF m 206 #[.val (.int p1), .val (.int p2), .val (.int p3), .val (.int p4), .val (.ref r5), .val (.ref b13), .val (.ref b23), .val (.int (f0_v71 p1)), .val (.int (f0_v120 p2)), .val (.int (p3 &&& (3 : Int32))), .val .null, .val (.int (0 : Int32)), .val (.int f8n), .unset] [(.ref b23)])) _
        refine XS.aload X111.here hx rfl (hb hby at_206) rfl rfl ?_
        show Steps p.tables e below (T111.setTop (mkF m 208 #[.val (.int p1), .val (.int p2), .val (.int p3), .val (.int p4), .val (.ref r5), .val (.ref b13), .val (.ref b23), .val (.int (f0_v71 p1)), .val (.int (f0_v120 p2)), .val (.int (p3 &&& (3 : Int32))), .val .null, .val (.int (0 : Int32)), .val (.int f8n), .unset] [(.ref b13), (.ref b23)])) _
        refine st112.trans ?_
        show Steps p.tables e below (T112.setTop (mkF m 211 #[.val (.int p1), .val (.int p2), .val (.int p3), .val (.int p4), .val (.ref r5), .val (.ref b13), .val (.ref b23), .val (.int (f0_v71 p1)), .val (.int (f0_v120 p2)), .val (.int (p3 &&& (3 : Int32))), .val .null, .val (.int (0 : Int32)), .val (.int f8n), .unset] [(.int (f8 (f4_o0 (((p2.toUInt32 >>> ((4 : Int32) &&& 31).toUInt32).toInt32) &&& (3 : Int32)) (f0_v104 p2) (f4_o0 (((p2.toUInt32 >>> ((2 : Int32) &&& 31).toUInt32).toInt32) &&& (3 : Int32)) (f4 (p2 &&& (3 : Int32)) (0 : Int32) (0 : Int64)) (f4_o0 (p2 &&& (3 : Int32)) (0 : Int32) (0 : Int64)))) (f4_o0 (((p1.toUInt32 >>> ((4 : Int32) &&& 31).toUInt32).toInt32) &&& (3 : Int32)) (f0_v55 p1) (f4_o0 (((p1.toUInt32 >>> ((2 : Int32) &&& 31).toUInt32).toInt32) &&& (3 : Int32)) (f4 (p1 &&& (3 : Int32)) (0 : Int32) (0 : Int64)) (f4_o0 (p1 &&& (3 : Int32)) (0 : Int32) (0 : Int64))))))])) _
        refine XS.istore X112.here hx rfl (hb hby at_211) rfl (l' := #[.val (.int p1), .val (.int p2), .val (.int p3), .val (.int p4), .val (.ref r5), .val (.ref b13), .val (.ref b23), .val (.int (f0_v71 p1)), .val (.int (f0_v120 p2)), .val (.int (p3 &&& (3 : Int32))), .val .null, .val (.int (0 : Int32)), .val (.int f8n), .val (.int (f0_v211 p1 p2))]) rfl ?_
        show Steps p.tables e below (T112.setTop (mkF m 213 #[.val (.int p1), .val (.int p2), .val (.int p3), .val (.int p4), .val (.ref r5), .val (.ref b13), .val (.ref b23), .val (.int (f0_v71 p1)), .val (.int (f0_v120 p2)), .val (.int (p3 &&& (3 : Int32))), .val .null, .val (.int (0 : Int32)), .val (.int f8n), .val (.int (f0_v211 p1 p2))] [])) _
        refine XS.iload X112.here hx rfl (hb hby at_213) rfl ?_
        show Steps p.tables e below (T112.setTop (mkF m 215 #[.val (.int p1), .val (.int p2), .val (.int p3), .val (.int p4), .val (.ref r5), .val (.ref b13), .val (.ref b23), .val (.int (f0_v71 p1)), .val (.int (f0_v120 p2)), .val (.int (p3 &&& (3 : Int32))), .val .null, .val (.int (0 : Int32)), .val (.int f8n), .val (.int (f0_v211 p1 p2))] [(.int f8n)])) _
        refine XS.iload X112.here hx rfl (hb hby at_215) rfl ?_
        exact k
      by_cases hc217 : f8n = (0 : Int32)
      · have pre16 : ∀ t, Steps p.tables e below (T112.setTop (mkF m 226 #[.val (.int p1), .val (.int p2), .val (.int p3), .val (.int p4), .val (.ref r5), .val (.ref b13), .val (.ref b23), .val (.int (f0_v71 p1)), .val (.int (f0_v120 p2)), .val (.int (p3 &&& (3 : Int32))), .val .null, .val (.int (0 : Int32)), .val (.int f8n), .val (.int (f0_v211 p1 p2))] [(.int (f0_v120 p2)), (.int (f0_v71 p1)), (.int (f0_v211 p1 p2))])) t → Steps p.tables e below (s₁.setTop (entryFrame m #[(.int p1), (.int p2), (.int p3), (.int p4)] maxLocals)) t := by
          intro t k
          refine pre15 t ?_
          show Steps p.tables e below (T112.setTop (mkF m 217 #[.val (.int p1), .val (.int p2), .val (.int p3), .val (.int p4), .val (.ref r5), .val (.ref b13), .val (.ref b23), .val (.int (f0_v71 p1)), .val (.int (f0_v120 p2)), .val (.int (p3 &&& (3 : Int32))), .val .null, .val (.int (0 : Int32)), .val (.int f8n), .val (.int (f0_v211 p1 p2))] [(.int (0 : Int32)), (.int f8n)])) _
          refine XS.icmpNo X112.here hx rfl (hb hby at_217) rfl (teq hc217).2 ?_
          show Steps p.tables e below (T112.setTop (mkF m 220 #[.val (.int p1), .val (.int p2), .val (.int p3), .val (.int p4), .val (.ref r5), .val (.ref b13), .val (.ref b23), .val (.int (f0_v71 p1)), .val (.int (f0_v120 p2)), .val (.int (p3 &&& (3 : Int32))), .val .null, .val (.int (0 : Int32)), .val (.int f8n), .val (.int (f0_v211 p1 p2))] [])) _
          refine XS.iload X112.here hx rfl (hb hby at_220) rfl ?_
          show Steps p.tables e below (T112.setTop (mkF m 222 #[.val (.int p1), .val (.int p2), .val (.int p3), .val (.int p4), .val (.ref r5), .val (.ref b13), .val (.ref b23), .val (.int (f0_v71 p1)), .val (.int (f0_v120 p2)), .val (.int (p3 &&& (3 : Int32))), .val .null, .val (.int (0 : Int32)), .val (.int f8n), .val (.int (f0_v211 p1 p2))] [(.int (f0_v211 p1 p2))])) _
          refine XS.iload X112.here hx rfl (hb hby at_222) rfl ?_
          show Steps p.tables e below (T112.setTop (mkF m 224 #[.val (.int p1), .val (.int p2), .val (.int p3), .val (.int p4), .val (.ref r5), .val (.ref b13), .val (.ref b23), .val (.int (f0_v71 p1)), .val (.int (f0_v120 p2)), .val (.int (p3 &&& (3 : Int32))), .val .null, .val (.int (0 : Int32)), .val (.int f8n), .val (.int (f0_v211 p1 p2))] [(.int (f0_v71 p1)), (.int (f0_v211 p1 p2))])) _
          refine XS.iload X112.here hx rfl (hb hby at_224) rfl ?_
          exact k
        have pre17 : ∀ t, Steps p.tables e below (T112.setTop (mkF m 234 #[.val (.int p1), .val (.int p2), .val (.int p3), .val (.int p4), .val (.ref r5), .val (.ref b13), .val (.ref b23), .val (.int (f0_v71 p1)), .val (.int (f0_v120 p2)), .val (.int (p3 &&& (3 : Int32))), .val .null, .val (.int (0 : Int32)), .val (.int f8n), .val (.int (f0_v211 p1 p2))] [(.int (f0_s0_234_4 p1 p2)), (.int (f0_v211 p1 p2))])) t → Steps p.tables e below (s₁.setTop (entryFrame m #[(.int p1), (.int p2), (.int p3), (.int p4)] maxLocals)) t := by
          intro t k
          by_cases hc226 : (f0_v71 p1) = (f0_v120 p2)
          · have eq18 := (show (f0_s0_234_4 p1 p2) = (1 : Int32) from by unfold f0_s0_234_4; simp only [if_pos hc226])
            try rw [eq18] at k
            refine pre16 t ?_
            show Steps p.tables e below (T112.setTop (mkF m 226 #[.val (.int p1), .val (.int p2), .val (.int p3), .val (.int p4), .val (.ref r5), .val (.ref b13), .val (.ref b23), .val (.int (f0_v71 p1)), .val (.int (f0_v120 p2)), .val (.int (p3 &&& (3 : Int32))), .val .null, .val (.int (0 : Int32)), .val (.int f8n), .val (.int (f0_v211 p1 p2))] [(.int (f0_v120 p2)), (.int (f0_v71 p1)), (.int (f0_v211 p1 p2))])) _
            refine XS.icmpNo X112.here hx rfl (hb hby at_226) rfl (teq hc226).2 ?_
            show Steps p.tables e below (T112.setTop (mkF m 229 #[.val (.int p1), .val (.int p2), .val (.int p3), .val (.int p4), .val (.ref r5), .val (.ref b13), .val (.ref b23), .val (.int (f0_v71 p1)), .val (.int (f0_v120 p2)), .val (.int (p3 &&& (3 : Int32))), .val .null, .val (.int (0 : Int32)), .val (.int f8n), .val (.int (f0_v211 p1 p2))] [(.int (f0_v211 p1 p2))])) _
            refine XS.iconst X112.here hx rfl (hb hby at_229) ?_
            show Steps p.tables e below (T112.setTop (mkF m 230 #[.val (.int p1), .val (.int p2), .val (.int p3), .val (.int p4), .val (.ref r5), .val (.ref b13), .val (.ref b23), .val (.int (f0_v71 p1)), .val (.int (f0_v120 p2)), .val (.int (p3 &&& (3 : Int32))), .val .null, .val (.int (0 : Int32)), .val (.int f8n), .val (.int (f0_v211 p1 p2))] [(.int (1 : Int32)), (.int (f0_v211 p1 p2))])) _
            refine XS.goto X112.here hx rfl (pc0 := 230) (pc' := 234) rfl (hb hby at_230) (by decide) (by decide) ?_
            exact k
          · have eq19 := (show (f0_s0_234_4 p1 p2) = (0 : Int32) from by unfold f0_s0_234_4; simp only [if_neg hc226])
            try rw [eq19] at k
            refine pre16 t ?_
            show Steps p.tables e below (T112.setTop (mkF m 226 #[.val (.int p1), .val (.int p2), .val (.int p3), .val (.int p4), .val (.ref r5), .val (.ref b13), .val (.ref b23), .val (.int (f0_v71 p1)), .val (.int (f0_v120 p2)), .val (.int (p3 &&& (3 : Int32))), .val .null, .val (.int (0 : Int32)), .val (.int f8n), .val (.int (f0_v211 p1 p2))] [(.int (f0_v120 p2)), (.int (f0_v71 p1)), (.int (f0_v211 p1 p2))])) _
            refine XS.icmpYes X112.here hx rfl (pc0 := 226) (pc' := 233) rfl (hb hby at_226) rfl (feq hc226).2 (by decide) (by decide) ?_
            show Steps p.tables e below (T112.setTop (mkF m 233 #[.val (.int p1), .val (.int p2), .val (.int p3), .val (.int p4), .val (.ref r5), .val (.ref b13), .val (.ref b23), .val (.int (f0_v71 p1)), .val (.int (f0_v120 p2)), .val (.int (p3 &&& (3 : Int32))), .val .null, .val (.int (0 : Int32)), .val (.int f8n), .val (.int (f0_v211 p1 p2))] [(.int (f0_v211 p1 p2))])) _
            refine XS.iconst X112.here hx rfl (hb hby at_233) ?_
            exact k
        by_cases hc234 : (f0_v211 p1 p2) = (f0_s0_234_4 p1 p2)
        · have eq20 : (f0 p1 p2 p3 p4 w_high z_w_ic z_w_lc) = (1 : Int32) := by unfold f0; simp only [if_neg hc129, if_pos hc156, if_pos hc217, if_pos hc234]
          obtain ⟨fs, hr, hrun, hended, hW, hsame⟩ := X112.leave (v := some (.int (1 : Int32))) (fun h => by rw [Bd.returns] at h; cases h)
          refine ⟨_, _, pre17 _ ?_, hrun, hended, _, _, rfl, ?_, ⟨_, rfl⟩, hW, hsame.mono (by decide) (by decide)⟩
          · show Steps p.tables e below (T112.setTop (mkF m 234 #[.val (.int p1), .val (.int p2), .val (.int p3), .val (.int p4), .val (.ref r5), .val (.ref b13), .val (.ref b23), .val (.int (f0_v71 p1)), .val (.int (f0_v120 p2)), .val (.int (p3 &&& (3 : Int32))), .val .null, .val (.int (0 : Int32)), .val (.int f8n), .val (.int (f0_v211 p1 p2))] [(.int (f0_s0_234_4 p1 p2)), (.int (f0_v211 p1 p2))])) _
            refine XS.icmpNo X112.here hx rfl (hb hby at_234) rfl (teq hc234).2 ?_
            show Steps p.tables e below (T112.setTop (mkF m 237 #[.val (.int p1), .val (.int p2), .val (.int p3), .val (.int p4), .val (.ref r5), .val (.ref b13), .val (.ref b23), .val (.int (f0_v71 p1)), .val (.int (f0_v120 p2)), .val (.int (p3 &&& (3 : Int32))), .val .null, .val (.int (0 : Int32)), .val (.int f8n), .val (.int (f0_v211 p1 p2))] [])) _
            refine XS.iconst X112.here hx rfl (hb hby at_237) ?_
            show Steps p.tables e below (T112.setTop (mkF m 238 #[.val (.int p1), .val (.int p2), .val (.int p3), .val (.int p4), .val (.ref r5), .val (.ref b13), .val (.ref b23), .val (.int (f0_v71 p1)), .val (.int (f0_v120 p2)), .val (.int (p3 &&& (3 : Int32))), .val .null, .val (.int (0 : Int32)), .val (.int f8n), .val (.int (f0_v211 p1 p2))] [(.int (1 : Int32))])) _
            refine XS.goto X112.here hx rfl (pc0 := 238) (pc' := 242) rfl (hb hby at_238) (by decide) (by decide) ?_
            show Steps p.tables e below (T112.setTop (mkF m 242 #[.val (.int p1), .val (.int p2), .val (.int p3), .val (.int p4), .val (.ref r5), .val (.ref b13), .val (.ref b23), .val (.int (f0_v71 p1)), .val (.int (f0_v120 p2)), .val (.int (p3 &&& (3 : Int32))), .val .null, .val (.int (0 : Int32)), .val (.int f8n), .val (.int (f0_v211 p1 p2))] [(.int (1 : Int32))])) _
            exact retN X112 hx (t := .boolean) Bd.returns (by simp) (hb hby at_242) hr
          · show Q0 Z p1 p2 p3 p4 w_high w_ic z_w_ic c_w_ic w_lc z_w_lc c_w_lc h0 n0 _ T112.heap _
            rw [e112]
            exact ⟨by rw [eq20], N112, trivial⟩
        · have eq21 : (f0 p1 p2 p3 p4 w_high z_w_ic z_w_lc) = (0 : Int32) := by unfold f0; simp only [if_neg hc129, if_pos hc156, if_pos hc217, if_neg hc234]
          obtain ⟨fs, hr, hrun, hended, hW, hsame⟩ := X112.leave (v := some (.int (0 : Int32))) (fun h => by rw [Bd.returns] at h; cases h)
          refine ⟨_, _, pre17 _ ?_, hrun, hended, _, _, rfl, ?_, ⟨_, rfl⟩, hW, hsame.mono (by decide) (by decide)⟩
          · show Steps p.tables e below (T112.setTop (mkF m 234 #[.val (.int p1), .val (.int p2), .val (.int p3), .val (.int p4), .val (.ref r5), .val (.ref b13), .val (.ref b23), .val (.int (f0_v71 p1)), .val (.int (f0_v120 p2)), .val (.int (p3 &&& (3 : Int32))), .val .null, .val (.int (0 : Int32)), .val (.int f8n), .val (.int (f0_v211 p1 p2))] [(.int (f0_s0_234_4 p1 p2)), (.int (f0_v211 p1 p2))])) _
            refine XS.icmpYes X112.here hx rfl (pc0 := 234) (pc' := 241) rfl (hb hby at_234) rfl (feq hc234).2 (by decide) (by decide) ?_
            show Steps p.tables e below (T112.setTop (mkF m 241 #[.val (.int p1), .val (.int p2), .val (.int p3), .val (.int p4), .val (.ref r5), .val (.ref b13), .val (.ref b23), .val (.int (f0_v71 p1)), .val (.int (f0_v120 p2)), .val (.int (p3 &&& (3 : Int32))), .val .null, .val (.int (0 : Int32)), .val (.int f8n), .val (.int (f0_v211 p1 p2))] [])) _
            refine XS.iconst X112.here hx rfl (hb hby at_241) ?_
            show Steps p.tables e below (T112.setTop (mkF m 242 #[.val (.int p1), .val (.int p2), .val (.int p3), .val (.int p4), .val (.ref r5), .val (.ref b13), .val (.ref b23), .val (.int (f0_v71 p1)), .val (.int (f0_v120 p2)), .val (.int (p3 &&& (3 : Int32))), .val .null, .val (.int (0 : Int32)), .val (.int f8n), .val (.int (f0_v211 p1 p2))] [(.int (0 : Int32))])) _
            exact retN X112 hx (t := .boolean) Bd.returns (by simp) (hb hby at_242) hr
          · show Q0 Z p1 p2 p3 p4 w_high w_ic z_w_ic c_w_ic w_lc z_w_lc c_w_lc h0 n0 _ T112.heap _
            rw [e112]
            exact ⟨by rw [eq21], N112, trivial⟩
      · have eq22 : (f0 p1 p2 p3 p4 w_high z_w_ic z_w_lc) = (0 : Int32) := by unfold f0; simp only [if_neg hc129, if_pos hc156, if_neg hc217]
        obtain ⟨fs, hr, hrun, hended, hW, hsame⟩ := X112.leave (v := some (.int (0 : Int32))) (fun h => by rw [Bd.returns] at h; cases h)
        refine ⟨_, _, pre15 _ ?_, hrun, hended, _, _, rfl, ?_, ⟨_, rfl⟩, hW, hsame.mono (by decide) (by decide)⟩
        · show Steps p.tables e below (T112.setTop (mkF m 217 #[.val (.int p1), .val (.int p2), .val (.int p3), .val (.int p4), .val (.ref r5), .val (.ref b13), .val (.ref b23), .val (.int (f0_v71 p1)), .val (.int (f0_v120 p2)), .val (.int (p3 &&& (3 : Int32))), .val .null, .val (.int (0 : Int32)), .val (.int f8n), .val (.int (f0_v211 p1 p2))] [(.int (0 : Int32)), (.int f8n)])) _
          refine XS.icmpYes X112.here hx rfl (pc0 := 217) (pc' := 241) rfl (hb hby at_217) rfl (feq hc217).2 (by decide) (by decide) ?_
          show Steps p.tables e below (T112.setTop (mkF m 241 #[.val (.int p1), .val (.int p2), .val (.int p3), .val (.int p4), .val (.ref r5), .val (.ref b13), .val (.ref b23), .val (.int (f0_v71 p1)), .val (.int (f0_v120 p2)), .val (.int (p3 &&& (3 : Int32))), .val .null, .val (.int (0 : Int32)), .val (.int f8n), .val (.int (f0_v211 p1 p2))] [])) _
          refine XS.iconst X112.here hx rfl (hb hby at_241) ?_
          show Steps p.tables e below (T112.setTop (mkF m 242 #[.val (.int p1), .val (.int p2), .val (.int p3), .val (.int p4), .val (.ref r5), .val (.ref b13), .val (.ref b23), .val (.int (f0_v71 p1)), .val (.int (f0_v120 p2)), .val (.int (p3 &&& (3 : Int32))), .val .null, .val (.int (0 : Int32)), .val (.int f8n), .val (.int (f0_v211 p1 p2))] [(.int (0 : Int32))])) _
          exact retN X112 hx (t := .boolean) Bd.returns (by simp) (hb hby at_242) hr
        · show Q0 Z p1 p2 p3 p4 w_high w_ic z_w_ic c_w_ic w_lc z_w_lc c_w_lc h0 n0 _ T112.heap _
          rw [e112]
          exact ⟨by rw [eq22], N112, trivial⟩
    · have pre23 : ∀ t, Steps p.tables e below (T95.setTop (mkF m 171 #[.val (.int p1), .val (.int p2), .val (.int p3), .val (.int p4), .val (.ref r5), .val (.ref b13), .val (.ref b23), .val (.int (f0_v71 p1)), .val (.int (f0_v120 p2)), .val (.int (p3 &&& (3 : Int32))), .unset, .unset, .unset, .unset] [(.int (2 : Int32)), (.int (p3 &&& (3 : Int32)))])) t → Steps p.tables e below (s₁.setTop (entryFrame m #[(.int p1), (.int p2), (.int p3), (.int p4)] maxLocals)) t := by
        intro t k
        refine pre14 t ?_
        show Steps p.tables e below (T95.setTop (mkF m 156 #[.val (.int p1), .val (.int p2), .val (.int p3), .val (.int p4), .val (.ref r5), .val (.ref b13), .val (.ref b23), .val (.int (f0_v71 p1)), .val (.int (f0_v120 p2)), .val (.int (p3 &&& (3 : Int32))), .unset, .unset, .unset, .unset] [(.int (1 : Int32)), (.int (p3 &&& (3 : Int32)))])) _
        refine XS.icmpYes X95.here hx rfl (pc0 := 156) (pc' := 168) rfl (hb hby at_156) rfl (feq hc156).2 (by decide) (by decide) ?_
        show Steps p.tables e below (T95.setTop (mkF m 168 #[.val (.int p1), .val (.int p2), .val (.int p3), .val (.int p4), .val (.ref r5), .val (.ref b13), .val (.ref b23), .val (.int (f0_v71 p1)), .val (.int (f0_v120 p2)), .val (.int (p3 &&& (3 : Int32))), .unset, .unset, .unset, .unset] [])) _
        refine XS.iload X95.here hx rfl (hb hby at_168) rfl ?_
        show Steps p.tables e below (T95.setTop (mkF m 170 #[.val (.int p1), .val (.int p2), .val (.int p3), .val (.int p4), .val (.ref r5), .val (.ref b13), .val (.ref b23), .val (.int (f0_v71 p1)), .val (.int (f0_v120 p2)), .val (.int (p3 &&& (3 : Int32))), .unset, .unset, .unset, .unset] [(.int (p3 &&& (3 : Int32)))])) _
        refine XS.iconst X95.here hx rfl (hb hby at_170) ?_
        exact k
      by_cases hc171 : (p3 &&& (3 : Int32)) = (2 : Int32)
      · obtain ⟨_, _, ⟨T114, L114, k114, n114⟩, -, X114, ⟨Lc114, hQ114, l114, y114, z114⟩, st114⟩ := Jvm.LawKit.callS X95 hx (y := (⟨"java/lang/Long", "valueOf", "(J)Ljava/lang/Long;"⟩ : MethodName)) hown (mvT hZ (hw _ (List.mem_of_getElem? (i := 32) rfl))) (mvT hZ (hw _ (List.mem_of_getElem? (i := 33) rfl))) (mvT hZ (hw _ (List.mem_of_getElem? (i := 34) rfl))) (mvT hZ (hw _ (List.mem_of_getElem? (i := 35) rfl))) (by decide) (backOf (W := 0) (rm7 l Z a0 hw [] ((f0_v71 p1).toInt64) w_lc z_w_lc c_w_lc T95.heap n0 c96 c100 c101 hzl (own_ca p1) c102) hZ (hw _ (List.mem_of_getElem? (i := 35) rfl)) (hw _ (List.mem_of_getElem? (i := 34) rfl)) (by decide) (by decide)) (g := (mkF m 177 #[.val (.int p1), .val (.int p2), .val (.int p3), .val (.int p4), .val (.ref r5), .val (.ref b13), .val (.ref b23), .val (.int (f0_v71 p1)), .val (.int (f0_v120 p2)), .val (.int (p3 &&& (3 : Int32))), .unset, .unset, .unset, .unset] [(.long ((f0_v71 p1).toInt64))])) rfl (by rw [hml]; rfl) (argsL := [(.long ((f0_v71 p1).toInt64))]) (rest := []) (lenOf pd_5 rfl) rfl (by show 2 * 0 + _ ≤ _; exact Nat.le_of_eq rfl) (hb hby at_177) (fun _ _ => ⟨rfl, rfl, (by decide : 3 + 0 ≤ _), (by decide : 3 + 0 ≤ _)⟩)
        dsimp only [Pt.U, Pt.locs, Pt.cells, Pt.slots] at X114 l114 y114 z114 st114 hQ114
        subst l114 y114 z114
        obtain ⟨⟨r114, rfl, rq114_0⟩, N114q, e114⟩ := hQ114
        have N114 := Fr.app N95 N114q
        obtain ⟨cq115, kq115, q115a, q115b, q115c⟩ := isOf hZ e114 c103
        obtain ⟨_, _, ⟨T115, L115, k115, n115⟩, -, X115, ⟨Lc115, hQ115, l115, y115, z115⟩, st115⟩ := X114.virtualBack hx (y := (⟨"com/example/millrace/millrace/runtime/aggregate/Count", "equals", "(Ljava/lang/Object;)Z"⟩ : MethodName)) (z := (⟨"com/example/millrace/millrace/runtime/aggregate/Count", "equals", "(Ljava/lang/Object;)Z"⟩ : MethodName)) hown (mvT hZ (hw _ (List.mem_of_getElem? (i := 40) rfl))) (mvT hZ (hw _ (List.mem_of_getElem? (i := 41) rfl))) (notFace_of_selects (args := #[]) (mvT hZ (hw _ (List.mem_of_getElem? (i := 43) rfl)))) (mvT hZ (hw _ (List.mem_of_getElem? (i := 43) rfl))) (mvT hZ (hw _ (List.mem_of_getElem? (i := 42) rfl))) (by decide) (backOf (W := 0) (rm8l l Z a0 hw [] b13 r114 T95.heap n0 c96 rq114_0) hZ (hw _ (List.mem_of_getElem? (i := 44) rfl)) (hw _ (List.mem_of_getElem? (i := 9) rfl)) (by decide) (by decide)) q115a q115c (g := (mkF m 199 #[.val (.int p1), .val (.int p2), .val (.int p3), .val (.int p4), .val (.ref r5), .val (.ref b13), .val (.ref b23), .val (.int (f0_v71 p1)), .val (.int (f0_v120 p2)), .val (.int (p3 &&& (3 : Int32))), .val (.ref r114), .val (.int (0 : Int32)), .unset, .unset] [(.ref r114), (.ref b13)])) rfl (by rw [hml]; rfl) (Steps.refl _) (argsL := [(.ref r114)]) (rest := []) (lenOf pd_6 rfl) rfl (by show 2 * 0 + _ ≤ _; exact Nat.le_of_eq rfl) (hb hby at_199) (fun _ _ => ⟨rfl, e114, (by decide : 3 + 0 ≤ _), (by decide : 3 + 0 ≤ _)⟩)
        dsimp only [Pt.U, Pt.locs, Pt.cells, Pt.slots] at X115 l115 y115 z115 st115 hQ115
        subst l115 y115 z115
        obtain ⟨rfl, N115q, e115⟩ := hQ115
        have N115 := Fr.app N114 N115q
        obtain ⟨cq116, kq116, q116a, q116b, q116c⟩ := isOf hZ e115 c105
        obtain ⟨_, _, ⟨T116, L116, k116, n116⟩, -, X116, ⟨Lc116, hQ116, l116, y116, z116⟩, st116⟩ := X115.virtualBack hx (y := (⟨"com/example/millrace/millrace/runtime/aggregate/Count", "equals", "(Ljava/lang/Object;)Z"⟩ : MethodName)) (z := (⟨"com/example/millrace/millrace/runtime/aggregate/Count", "equals", "(Ljava/lang/Object;)Z"⟩ : MethodName)) hown (mvT hZ (hw _ (List.mem_of_getElem? (i := 40) rfl))) (mvT hZ (hw _ (List.mem_of_getElem? (i := 41) rfl))) (notFace_of_selects (args := #[]) (mvT hZ (hw _ (List.mem_of_getElem? (i := 43) rfl)))) (mvT hZ (hw _ (List.mem_of_getElem? (i := 43) rfl))) (mvT hZ (hw _ (List.mem_of_getElem? (i := 42) rfl))) (by decide) (backOf (W := 0) (rm8 l Z a0 hw [] b23 b13 (f4_o0 (((p2.toUInt32 >>> ((4 : Int32) &&& 31).toUInt32).toInt32) &&& (3 : Int32)) (f0_v104 p2) (f4_o0 (((p2.toUInt32 >>> ((2 : Int32) &&& 31).toUInt32).toInt32) &&& (3 : Int32)) (f4 (p2 &&& (3 : Int32)) (0 : Int32) (0 : Int64)) (f4_o0 (p2 &&& (3 : Int32)) (0 : Int32) (0 : Int64)))) (f4_o0 (((p1.toUInt32 >>> ((4 : Int32) &&& 31).toUInt32).toInt32) &&& (3 : Int32)) (f0_v55 p1) (f4_o0 (((p1.toUInt32 >>> ((2 : Int32) &&& 31).toUInt32).toInt32) &&& (3 : Int32)) (f4 (p1 &&& (3 : Int32)) (0 : Int32) (0 : Int64)) (f4_o0 (p1 &&& (3 : Int32)) (0 : Int32) (0 : Int64)))) T95.heap n0 c96 c106 c103 c104) hZ (hw _ (List.mem_of_getElem? (i := 44) rfl)) (hw _ (List.mem_of_getElem? (i := 9) rfl)) (by decide) (by decide)) q116a q116c (g := (mkF m 208 #[.val (.int p1), .val (.int p2), .val (.int p3), .val (.int p4), .val (.ref r5), .val (.ref b13), .val (.ref b23), .val (.int (f0_v71 p1)), .val (.int (f0_v120 p2)), .val (.int (p3 &&& (3 : Int32))), .val (.ref r114), .val (.int (0 : Int32)), .val (.int f8l), .unset] [(.ref b13), (.ref b23)])) rfl (by rw [hml]; rfl) (Steps.refl _) (argsL := [(.ref b13)]) (rest := []) (lenOf pd_6 rfl) rfl (by show 2 * 0 + _ ≤ _; exact Nat.le_of_eq rfl) (hb hby at_208) (fun _ _ => ⟨rfl, e115, (by decide : 3 + 0 ≤ _), (by decide : 3 + 0 ≤ _)⟩)
        dsimp only [Pt.U, Pt.locs, Pt.cells, Pt.slots] at X116 l116 y116 z116 st116 hQ116
        subst l116 y116 z116
        obtain ⟨rfl, N116q, e116⟩ := hQ116
        have N116 := Fr.app N115 N116q
        have pre24 : ∀ t, Steps p.tables e below (T116.setTop (mkF m 217 #[.val (.int p1), .val (.int p2), .val (.int p3), .val (.int p4), .val (.ref r5), .val (.ref b13), .val (.ref b23), .val (.int (f0_v71 p1)), .val (.int (f0_v120 p2)), .val (.int (p3 &&& (3 : Int32))), .val (.ref r114), .val (.int (0 : Int32)), .val (.int f8l), .val (.int (f0_v211 p1 p2))] [(.int (0 : Int32)), (.int f8l)])) t → Steps p.tables e below (s₁.setTop (entryFrame m #[(.int p1), (.int p2), (.int p3), (.int p4)] maxLocals)) t := by
          intro t k
          refine pre23 t ?_
          show Steps p.tables e below (T95.setTop (mkF m 171 #[.val (.int p1), .val (.int p2), .val (.int p3), .val (.int p4), .val (.ref r5), .val (.ref b13), .val (.ref b23), .val (.int (f0_v71 p1)), .val (.int (f0_v120 p2)), .val (.int (p3 &&& (3 : Int32))), .unset, .unset, .unset, .unset] [(.int (2 : Int32)), (.int (p3 &&& (3 : Int32)))])) _
          refine XS.icmpNo X95.here hx rfl (hb hby at_171) rfl (teq hc171).2 ?_
          show Steps p.tables e below (T95.setTop (mkF m 174 #[.val (.int p1), .val (.int p2), .val (.int p3), .val (.int p4), .val (.ref r5), .val (.ref b13), .val (.ref b23), .val (.int (f0_v71 p1)), .val (.int (f0_v120 p2)), .val (.int (p3 &&& (3 : Int32))), .unset, .unset, .unset, .unset] [])) _
          refine XS.iload X95.here hx rfl (hb hby at_174) rfl ?_
          show Steps p.tables e below (T95.setTop (mkF m 176 #[.val (.int p1), .val (.int p2), .val (.int p3), .val (.int p4), .val (.ref r5), .val (.ref b13), .val (.ref b23), .val (.int (f0_v71 p1)), .val (.int (f0_v120 p2)), .val (.int (p3 &&& (3 : Int32))), .unset, .unset, .unset, .unset] [(.int (f0_v71 p1))])) _
          refine XS.i2l X95.here hx rfl (hb hby at_176) rfl ?_
          show Steps p.tables e below (T95.setTop (mkF m 177 #[.val (.int p1), .val (.int p2), .val (.int p3), .val (.int p4), .val (.ref r5), .val (.ref b13), .val (.ref b23), .val (.int (f0_v71 p1)), .val (.int (f0_v120 p2)), .val (.int (p3 &&& (3 : Int32))), .unset, .unset, .unset, .unset] [(.long ((f0_v71 p1).toInt64))])) _
          refine st114 _ ?_
          show Steps p.tables e below (T114.setTop (mkF m 180 #[.val (.int p1), .val (.int p2), .val (.int p3), .val (.int p4), .val (.ref r5), .val (.ref b13), .val (.ref b23), .val (.int (f0_v71 p1)), .val (.int (f0_v120 p2)), .val (.int (p3 &&& (3 : Int32))), .unset, .unset, .unset, .unset] [(.ref r114)])) _
          refine XS.astore X114.here hx rfl (hb hby at_180) rfl rfl (l' := #[.val (.int p1), .val (.int p2), .val (.int p3), .val (.int p4), .val (.ref r5), .val (.ref b13), .val (.ref b23), .val (.int (f0_v71 p1)), .val (.int (f0_v120 p2)), .val (.int (p3 &&& (3 : Int32))), .val (.ref r114), .unset, .unset, .unset]) rfl ?_
          show Steps p.tables e below (T114.setTop (mkF m 182 #[.val (.int p1), .val (.int p2), .val (.int p3), .val (.int p4), .val (.ref r5), .val (.ref b13), .val (.ref b23), .val (.int (f0_v71 p1)), .val (.int (f0_v120 p2)), .val (.int (p3 &&& (3 : Int32))), .val (.ref r114), .unset, .unset, .unset] [])) _
          refine XS.iconst X114.here hx rfl (hb hby at_182) ?_
          show Steps p.tables e below (T114.setTop (mkF m 183 #[.val (.int p1), .val (.int p2), .val (.int p3), .val (.int p4), .val (.ref r5), .val (.ref b13), .val (.ref b23), .val (.int (f0_v71 p1)), .val (.int (f0_v120 p2)), .val (.int (p3 &&& (3 : Int32))), .val (.ref r114), .unset, .unset, .unset] [(.int (0 : Int32))])) _
          refine XS.istore X114.here hx rfl (hb hby at_183) rfl (l' := #[.val (.int p1), .val (.int p2), .val (.int p3), .val (.int p4), .val (.ref r5), .val (.ref b13), .val (.ref b23), .val (.int (f0_v71 p1)), .val (.int (f0_v120 p2)), .val (.int (p3 &&& (3 : Int32))), .val (.ref r114), .val (.int (0 : Int32)), .unset, .unset]) rfl ?_
          show Steps p.tables e below (T114.setTop (mkF m 185 #[.val (.int p1), .val (.int p2), .val (.int p3), .val (.int p4), .val (.ref r5), .val (.ref b13), .val (.ref b23), .val (.int (f0_v71 p1)), .val (.int (f0_v120 p2)), .val (.int (p3 &&& (3 : Int32))), .val (.ref r114), .val (.int (0 : Int32)), .unset, .unset] [])) _
          refine XS.goto X114.here hx rfl (pc0 := 185) (pc' := 195) rfl (hb hby at_185) (by decide) (by decide) ?_
          show Steps p.tables e below (T114.setTop (mkF m 195 #[.val (.int p1), .val (.int p2), .val (.int p3), .val (.int p4), .val (.ref r5), .val (.ref b13), .val (.ref b23), .val (.int (f0_v71 p1)), .val (.int (f0_v120 p2)), .val (.int (p3 &&& (3 : Int32))), .val (.ref r114), .val (.int (0 : Int32)), .unset, .unset] [])) _
          refine XS.aload X114.here hx rfl (hb hby at_195) rfl rfl ?_
          show Steps p.tables e below (T114.setTop (mkF m 197 #[.val (.int p1), .val (.int p2), .val (.int p3), .val (.int p4), .val (.ref r5), .val (.ref b13), .val (.ref b23), .val (.int (f0_v71 p1)), .val (.int (f0_v120 p2)), .val (.int (p3 &&& (3 : Int32))), .val (.ref r114), .val (.int (0 : Int32)), .unset, .unset] [(.ref b13)])) _
          refine XS.aload X114.here hx rfl (hb hby at_197) rfl rfl ?_
          show Steps p.tables e below (T114.setTop (mkF m 199 #[.val (.int p1), .val (.int p2), .val (.int p3), .val (.int p4), .val (.ref r5), .val (.ref b13), .val (.ref b23), .val (.int (f0_v71 p1)), .val (.int (f0_v120 p2)), .val (.int (p3 &&& (3 : Int32))), .val (.ref r114), .val (.int (0 : Int32)), .unset, .unset] [(.ref r114), (.ref b13)])) _
          refine st115.trans ?_
          show Steps p.tables e below (T115.setTop (mkF m 202 #[.val (.int p1), .val (.int p2), .val (.int p3), .val (.int p4), .val (.ref r5), .val (.ref b13), .val (.ref b23), .val (.int (f0_v71 p1)), .val (.int (f0_v120 p2)), .val (.int (p3 &&& (3 : Int32))), .val (.ref r114), .val (.int (0 : Int32)), .unset, .unset] [(.int f8l)])) _
          refine XS.istore X115.here hx rfl (hb hby at_202) rfl (l' := #[.val (.int p1), .val (.int p2), .val (.int p3), .val (.int p4), .val (.ref r5), .val (.ref b13), .val (.ref b23), .val (.int (f0_v71 p1)), .val (.int (f0_v120 p2)), .val (.int (p3 &&& (3 : Int32))), .val (.ref r114), .val (.int (0 : Int32)), .val (.int f8l), .unset]) rfl ?_
          show Steps p.tables e below (T115.setTop (mkF m 204 #[.val (.int p1), .val (.int p2), .val (.int p3), .val (.int p4), .val (.ref r5), .val (.ref b13), .val (.ref b23), .val (.int (f0_v71 p1)), .val (.int (f0_v120 p2)), .val (.int (p3 &&& (3 : Int32))), .val (.ref r114), .val (.int (0 : Int32)), .val (.int f8l), .unset] [])) _
          refine XS.aload X115.here hx rfl (hb hby at_204) rfl rfl ?_
          show Steps p.tables e below (T115.setTop (mkF m 206 #[.val (.int p1), .val (.int p2), .val (.int p3), .val (.int p4), .val (.ref r5), .val (.ref b13), .val (.ref b23), .val (.int (f0_v71 p1)), .val (.int (f0_v120 p2)), .val (.int (p3 &&& (3 : Int32))), .val (.ref r114), .val (.int (0 : Int32)), .val (.int f8l), .unset] [(.ref b23)])) _
          refine XS.aload X115.here hx rfl (hb hby at_206) rfl rfl ?_
          show Steps p.tables e below (T115.setTop (mkF m 208 #[.val (.int p1), .val (.int p2), .val (.int p3), .val (.int p4), .val (.ref r5), .val (.ref b13), .val (.ref b23), .val (.int (f0_v71 p1)), .val (.int (f0_v120 p2)), .val (.int (p3 &&& (3 : Int32))), .val (.ref r114), .val (.int (0 : Int32)), .val (.int f8l), .unset] [(.ref b13), (.ref b23)])) _
          refine st116.trans ?_
          show Steps p.tables e below (T116.setTop (mkF m 211 #[.val (.int p1), .val (.int p2), .val (.int p3), .val (.int p4), .val (.ref r5), .val (.ref b13), .val (.ref b23), .val (.int (f0_v71 p1)), .val (.int (f0_v120 p2)), .val (.int (p3 &&& (3 : Int32))), .val (.ref r114), .val (.int (0 : Int32)), .val (.int f8l), .unset] [(.int (f8 (f4_o0 (((p2.toUInt32 >>> ((4 : Int32) &&& 31).toUInt32).toInt32) &&& (3 : Int32)) (f0_v104 p2) (f4_o0 (((p2.toUInt32 >>> ((2 : Int32) &&& 31).toUInt32).toInt32) &&& (3 : Int32)) (f4 (p2 &&& (3 : Int32)) (0 : Int32) (0 : Int64)) (f4_o0 (p2 &&& (3 : Int32)) (0 : Int32) (0 : Int64)))) (f4_o0 (((p1.toUInt32 >>> ((4 : Int32) &&& 31).toUInt32).toInt32) &&& (3 : Int32)) (f0_v55 p1) (f4_o0 (((p1.toUInt32 >>> ((2 : Int32) &&& 31).toUInt32).toInt32) &&& (3 : Int32)) (f4 (p1 &&& (3 : Int32)) (0 : Int32) (0 : Int64)) (f4_o0 (p1 &&& (3 : Int32)) (0 : Int32) (0 : Int64))))))])) _
          refine XS.istore X116.here hx rfl (hb hby at_211) rfl (l' := #[.val (.int p1), .val (.int p2), .val (.int p3), .val (.int p4), .val (.ref r5), .val (.ref b13), .val (.ref b23), .val (.int (f0_v71 p1)), .val (.int (f0_v120 p2)), .val (.int (p3 &&& (3 : Int32))), .val (.ref r114), .val (.int (0 : Int32)), .val (.int f8l), .val (.int (f0_v211 p1 p2))]) rfl ?_
          show Steps p.tables e below (T116.setTop (mkF m 213 #[.val (.int p1), .val (.int p2), .val (.int p3), .val (.int p4), .val (.ref r5), .val (.ref b13), .val (.ref b23), .val (.int (f0_v71 p1)), .val (.int (f0_v120 p2)), .val (.int (p3 &&& (3 : Int32))), .val (.ref r114), .val (.int (0 : Int32)), .val (.int f8l), .val (.int (f0_v211 p1 p2))] [])) _
          refine XS.iload X116.here hx rfl (hb hby at_213) rfl ?_
          show Steps p.tables e below (T116.setTop (mkF m 215 #[.val (.int p1), .val (.int p2), .val (.int p3), .val (.int p4), .val (.ref r5), .val (.ref b13), .val (.ref b23), .val (.int (f0_v71 p1)), .val (.int (f0_v120 p2)), .val (.int (p3 &&& (3 : Int32))), .val (.ref r114), .val (.int (0 : Int32)), .val (.int f8l), .val (.int (f0_v211 p1 p2))] [(.int f8l)])) _
          refine XS.iload X116.here hx rfl (hb hby at_215) rfl ?_
          exact k
        by_cases hc217 : f8l = (0 : Int32)
        · have pre25 : ∀ t, Steps p.tables e below (T116.setTop (mkF m 226 #[.val (.int p1), .val (.int p2), .val (.int p3), .val (.int p4), .val (.ref r5), .val (.ref b13), .val (.ref b23), .val (.int (f0_v71 p1)), .val (.int (f0_v120 p2)), .val (.int (p3 &&& (3 : Int32))), .val (.ref r114), .val (.int (0 : Int32)), .val (.int f8l), .val (.int (f0_v211 p1 p2))] [(.int (f0_v120 p2)), (.int (f0_v71 p1)), (.int (f0_v211 p1 p2))])) t → Steps p.tables e below (s₁.setTop (entryFrame m #[(.int p1), (.int p2), (.int p3), (.int p4)] maxLocals)) t := by
            intro t k
            refine pre24 t ?_
            show Steps p.tables e below (T116.setTop (mkF m 217 #[.val (.int p1), .val (.int p2), .val (.int p3), .val (.int p4), .val (.ref r5), .val (.ref b13), .val (.ref b23), .val (.int (f0_v71 p1)), .val (.int (f0_v120 p2)), .val (.int (p3 &&& (3 : Int32))), .val (.ref r114), .val (.int (0 : Int32)), .val (.int f8l), .val (.int (f0_v211 p1 p2))] [(.int (0 : Int32)), (.int f8l)])) _
            refine XS.icmpNo X116.here hx rfl (hb hby at_217) rfl (teq hc217).2 ?_
            show Steps p.tables e below (T116.setTop (mkF m 220 #[.val (.int p1), .val (.int p2), .val (.int p3), .val (.int p4), .val (.ref r5), .val (.ref b13), .val (.ref b23), .val (.int (f0_v71 p1)), .val (.int (f0_v120 p2)), .val (.int (p3 &&& (3 : Int32))), .val (.ref r114), .val (.int (0 : Int32)), .val (.int f8l), .val (.int (f0_v211 p1 p2))] [])) _
            refine XS.iload X116.here hx rfl (hb hby at_220) rfl ?_
            show Steps p.tables e below (T116.setTop (mkF m 222 #[.val (.int p1), .val (.int p2), .val (.int p3), .val (.int p4), .val (.ref r5), .val (.ref b13), .val (.ref b23), .val (.int (f0_v71 p1)), .val (.int (f0_v120 p2)), .val (.int (p3 &&& (3 : Int32))), .val (.ref r114), .val (.int (0 : Int32)), .val (.int f8l), .val (.int (f0_v211 p1 p2))] [(.int (f0_v211 p1 p2))])) _
            refine XS.iload X116.here hx rfl (hb hby at_222) rfl ?_
            show Steps p.tables e below (T116.setTop (mkF m 224 #[.val (.int p1), .val (.int p2), .val (.int p3), .val (.int p4), .val (.ref r5), .val (.ref b13), .val (.ref b23), .val (.int (f0_v71 p1)), .val (.int (f0_v120 p2)), .val (.int (p3 &&& (3 : Int32))), .val (.ref r114), .val (.int (0 : Int32)), .val (.int f8l), .val (.int (f0_v211 p1 p2))] [(.int (f0_v71 p1)), (.int (f0_v211 p1 p2))])) _
            refine XS.iload X116.here hx rfl (hb hby at_224) rfl ?_
            exact k
          have pre26 : ∀ t, Steps p.tables e below (T116.setTop (mkF m 234 #[.val (.int p1), .val (.int p2), .val (.int p3), .val (.int p4), .val (.ref r5), .val (.ref b13), .val (.ref b23), .val (.int (f0_v71 p1)), .val (.int (f0_v120 p2)), .val (.int (p3 &&& (3 : Int32))), .val (.ref r114), .val (.int (0 : Int32)), .val (.int f8l), .val (.int (f0_v211 p1 p2))] [(.int (f0_s0_234_5 p1 p2)), (.int (f0_v211 p1 p2))])) t → Steps p.tables e below (s₁.setTop (entryFrame m #[(.int p1), (.int p2), (.int p3), (.int p4)] maxLocals)) t := by
            intro t k
            by_cases hc226 : (f0_v71 p1) = (f0_v120 p2)
            · have eq27 := (show (f0_s0_234_5 p1 p2) = (1 : Int32) from by unfold f0_s0_234_5; simp only [if_pos hc226])
              try rw [eq27] at k
              refine pre25 t ?_
              show Steps p.tables e below (T116.setTop (mkF m 226 #[.val (.int p1), .val (.int p2), .val (.int p3), .val (.int p4), .val (.ref r5), .val (.ref b13), .val (.ref b23), .val (.int (f0_v71 p1)), .val (.int (f0_v120 p2)), .val (.int (p3 &&& (3 : Int32))), .val (.ref r114), .val (.int (0 : Int32)), .val (.int f8l), .val (.int (f0_v211 p1 p2))] [(.int (f0_v120 p2)), (.int (f0_v71 p1)), (.int (f0_v211 p1 p2))])) _
              refine XS.icmpNo X116.here hx rfl (hb hby at_226) rfl (teq hc226).2 ?_
              show Steps p.tables e below (T116.setTop (mkF m 229 #[.val (.int p1), .val (.int p2), .val (.int p3), .val (.int p4), .val (.ref r5), .val (.ref b13), .val (.ref b23), .val (.int (f0_v71 p1)), .val (.int (f0_v120 p2)), .val (.int (p3 &&& (3 : Int32))), .val (.ref r114), .val (.int (0 : Int32)), .val (.int f8l), .val (.int (f0_v211 p1 p2))] [(.int (f0_v211 p1 p2))])) _
              refine XS.iconst X116.here hx rfl (hb hby at_229) ?_
              show Steps p.tables e below (T116.setTop (mkF m 230 #[.val (.int p1), .val (.int p2), .val (.int p3), .val (.int p4), .val (.ref r5), .val (.ref b13), .val (.ref b23), .val (.int (f0_v71 p1)), .val (.int (f0_v120 p2)), .val (.int (p3 &&& (3 : Int32))), .val (.ref r114), .val (.int (0 : Int32)), .val (.int f8l), .val (.int (f0_v211 p1 p2))] [(.int (1 : Int32)), (.int (f0_v211 p1 p2))])) _
              refine XS.goto X116.here hx rfl (pc0 := 230) (pc' := 234) rfl (hb hby at_230) (by decide) (by decide) ?_
              exact k
            · have eq28 := (show (f0_s0_234_5 p1 p2) = (0 : Int32) from by unfold f0_s0_234_5; simp only [if_neg hc226])
              try rw [eq28] at k
              refine pre25 t ?_
              show Steps p.tables e below (T116.setTop (mkF m 226 #[.val (.int p1), .val (.int p2), .val (.int p3), .val (.int p4), .val (.ref r5), .val (.ref b13), .val (.ref b23), .val (.int (f0_v71 p1)), .val (.int (f0_v120 p2)), .val (.int (p3 &&& (3 : Int32))), .val (.ref r114), .val (.int (0 : Int32)), .val (.int f8l), .val (.int (f0_v211 p1 p2))] [(.int (f0_v120 p2)), (.int (f0_v71 p1)), (.int (f0_v211 p1 p2))])) _
              refine XS.icmpYes X116.here hx rfl (pc0 := 226) (pc' := 233) rfl (hb hby at_226) rfl (feq hc226).2 (by decide) (by decide) ?_
              show Steps p.tables e below (T116.setTop (mkF m 233 #[.val (.int p1), .val (.int p2), .val (.int p3), .val (.int p4), .val (.ref r5), .val (.ref b13), .val (.ref b23), .val (.int (f0_v71 p1)), .val (.int (f0_v120 p2)), .val (.int (p3 &&& (3 : Int32))), .val (.ref r114), .val (.int (0 : Int32)), .val (.int f8l), .val (.int (f0_v211 p1 p2))] [(.int (f0_v211 p1 p2))])) _
              refine XS.iconst X116.here hx rfl (hb hby at_233) ?_
              exact k
          by_cases hc234 : (f0_v211 p1 p2) = (f0_s0_234_5 p1 p2)
          · have eq29 : (f0 p1 p2 p3 p4 w_high z_w_ic z_w_lc) = (1 : Int32) := by unfold f0; simp only [if_neg hc129, if_neg hc156, if_pos hc171, if_pos hc217, if_pos hc234]
            obtain ⟨fs, hr, hrun, hended, hW, hsame⟩ := X116.leave (v := some (.int (1 : Int32))) (fun h => by rw [Bd.returns] at h; cases h)
            refine ⟨_, _, pre26 _ ?_, hrun, hended, _, _, rfl, ?_, ⟨_, rfl⟩, hW, hsame.mono (by decide) (by decide)⟩
            · show Steps p.tables e below (T116.setTop (mkF m 234 #[.val (.int p1), .val (.int p2), .val (.int p3), .val (.int p4), .val (.ref r5), .val (.ref b13), .val (.ref b23), .val (.int (f0_v71 p1)), .val (.int (f0_v120 p2)), .val (.int (p3 &&& (3 : Int32))), .val (.ref r114), .val (.int (0 : Int32)), .val (.int f8l), .val (.int (f0_v211 p1 p2))] [(.int (f0_s0_234_5 p1 p2)), (.int (f0_v211 p1 p2))])) _
              refine XS.icmpNo X116.here hx rfl (hb hby at_234) rfl (teq hc234).2 ?_
              show Steps p.tables e below (T116.setTop (mkF m 237 #[.val (.int p1), .val (.int p2), .val (.int p3), .val (.int p4), .val (.ref r5), .val (.ref b13), .val (.ref b23), .val (.int (f0_v71 p1)), .val (.int (f0_v120 p2)), .val (.int (p3 &&& (3 : Int32))), .val (.ref r114), .val (.int (0 : Int32)), .val (.int f8l), .val (.int (f0_v211 p1 p2))] [])) _
              refine XS.iconst X116.here hx rfl (hb hby at_237) ?_
              show Steps p.tables e below (T116.setTop (mkF m 238 #[.val (.int p1), .val (.int p2), .val (.int p3), .val (.int p4), .val (.ref r5), .val (.ref b13), .val (.ref b23), .val (.int (f0_v71 p1)), .val (.int (f0_v120 p2)), .val (.int (p3 &&& (3 : Int32))), .val (.ref r114), .val (.int (0 : Int32)), .val (.int f8l), .val (.int (f0_v211 p1 p2))] [(.int (1 : Int32))])) _
              refine XS.goto X116.here hx rfl (pc0 := 238) (pc' := 242) rfl (hb hby at_238) (by decide) (by decide) ?_
              show Steps p.tables e below (T116.setTop (mkF m 242 #[.val (.int p1), .val (.int p2), .val (.int p3), .val (.int p4), .val (.ref r5), .val (.ref b13), .val (.ref b23), .val (.int (f0_v71 p1)), .val (.int (f0_v120 p2)), .val (.int (p3 &&& (3 : Int32))), .val (.ref r114), .val (.int (0 : Int32)), .val (.int f8l), .val (.int (f0_v211 p1 p2))] [(.int (1 : Int32))])) _
              exact retN X116 hx (t := .boolean) Bd.returns (by simp) (hb hby at_242) hr
            · show Q0 Z p1 p2 p3 p4 w_high w_ic z_w_ic c_w_ic w_lc z_w_lc c_w_lc h0 n0 _ T116.heap _
              rw [e116]
              exact ⟨by rw [eq29], N116, trivial⟩
          · have eq30 : (f0 p1 p2 p3 p4 w_high z_w_ic z_w_lc) = (0 : Int32) := by unfold f0; simp only [if_neg hc129, if_neg hc156, if_pos hc171, if_pos hc217, if_neg hc234]
            obtain ⟨fs, hr, hrun, hended, hW, hsame⟩ := X116.leave (v := some (.int (0 : Int32))) (fun h => by rw [Bd.returns] at h; cases h)
            refine ⟨_, _, pre26 _ ?_, hrun, hended, _, _, rfl, ?_, ⟨_, rfl⟩, hW, hsame.mono (by decide) (by decide)⟩
            · show Steps p.tables e below (T116.setTop (mkF m 234 #[.val (.int p1), .val (.int p2), .val (.int p3), .val (.int p4), .val (.ref r5), .val (.ref b13), .val (.ref b23), .val (.int (f0_v71 p1)), .val (.int (f0_v120 p2)), .val (.int (p3 &&& (3 : Int32))), .val (.ref r114), .val (.int (0 : Int32)), .val (.int f8l), .val (.int (f0_v211 p1 p2))] [(.int (f0_s0_234_5 p1 p2)), (.int (f0_v211 p1 p2))])) _
              refine XS.icmpYes X116.here hx rfl (pc0 := 234) (pc' := 241) rfl (hb hby at_234) rfl (feq hc234).2 (by decide) (by decide) ?_
              show Steps p.tables e below (T116.setTop (mkF m 241 #[.val (.int p1), .val (.int p2), .val (.int p3), .val (.int p4), .val (.ref r5), .val (.ref b13), .val (.ref b23), .val (.int (f0_v71 p1)), .val (.int (f0_v120 p2)), .val (.int (p3 &&& (3 : Int32))), .val (.ref r114), .val (.int (0 : Int32)), .val (.int f8l), .val (.int (f0_v211 p1 p2))] [])) _
              refine XS.iconst X116.here hx rfl (hb hby at_241) ?_
              show Steps p.tables e below (T116.setTop (mkF m 242 #[.val (.int p1), .val (.int p2), .val (.int p3), .val (.int p4), .val (.ref r5), .val (.ref b13), .val (.ref b23), .val (.int (f0_v71 p1)), .val (.int (f0_v120 p2)), .val (.int (p3 &&& (3 : Int32))), .val (.ref r114), .val (.int (0 : Int32)), .val (.int f8l), .val (.int (f0_v211 p1 p2))] [(.int (0 : Int32))])) _
              exact retN X116 hx (t := .boolean) Bd.returns (by simp) (hb hby at_242) hr
            · show Q0 Z p1 p2 p3 p4 w_high w_ic z_w_ic c_w_ic w_lc z_w_lc c_w_lc h0 n0 _ T116.heap _
              rw [e116]
              exact ⟨by rw [eq30], N116, trivial⟩
        · have eq31 : (f0 p1 p2 p3 p4 w_high z_w_ic z_w_lc) = (0 : Int32) := by unfold f0; simp only [if_neg hc129, if_neg hc156, if_pos hc171, if_neg hc217]
          obtain ⟨fs, hr, hrun, hended, hW, hsame⟩ := X116.leave (v := some (.int (0 : Int32))) (fun h => by rw [Bd.returns] at h; cases h)
          refine ⟨_, _, pre24 _ ?_, hrun, hended, _, _, rfl, ?_, ⟨_, rfl⟩, hW, hsame.mono (by decide) (by decide)⟩
          · show Steps p.tables e below (T116.setTop (mkF m 217 #[.val (.int p1), .val (.int p2), .val (.int p3), .val (.int p4), .val (.ref r5), .val (.ref b13), .val (.ref b23), .val (.int (f0_v71 p1)), .val (.int (f0_v120 p2)), .val (.int (p3 &&& (3 : Int32))), .val (.ref r114), .val (.int (0 : Int32)), .val (.int f8l), .val (.int (f0_v211 p1 p2))] [(.int (0 : Int32)), (.int f8l)])) _
            refine XS.icmpYes X116.here hx rfl (pc0 := 217) (pc' := 241) rfl (hb hby at_217) rfl (feq hc217).2 (by decide) (by decide) ?_
            show Steps p.tables e below (T116.setTop (mkF m 241 #[.val (.int p1), .val (.int p2), .val (.int p3), .val (.int p4), .val (.ref r5), .val (.ref b13), .val (.ref b23), .val (.int (f0_v71 p1)), .val (.int (f0_v120 p2)), .val (.int (p3 &&& (3 : Int32))), .val (.ref r114), .val (.int (0 : Int32)), .val (.int f8l), .val (.int (f0_v211 p1 p2))] [])) _
            refine XS.iconst X116.here hx rfl (hb hby at_241) ?_
            show Steps p.tables e below (T116.setTop (mkF m 242 #[.val (.int p1), .val (.int p2), .val (.int p3), .val (.int p4), .val (.ref r5), .val (.ref b13), .val (.ref b23), .val (.int (f0_v71 p1)), .val (.int (f0_v120 p2)), .val (.int (p3 &&& (3 : Int32))), .val (.ref r114), .val (.int (0 : Int32)), .val (.int f8l), .val (.int (f0_v211 p1 p2))] [(.int (0 : Int32))])) _
            exact retN X116 hx (t := .boolean) Bd.returns (by simp) (hb hby at_242) hr
          · show Q0 Z p1 p2 p3 p4 w_high w_ic z_w_ic c_w_ic w_lc z_w_lc c_w_lc h0 n0 _ T116.heap _
            rw [e116]
            exact ⟨by rw [eq31], N116, trivial⟩
      · obtain ⟨cq117, kq117, q117a, q117b, q117c⟩ := isOf hZ rfl c103
        obtain ⟨_, _, ⟨T117, L117, k117, n117⟩, -, X117, ⟨Lc117, hQ117, l117, y117, z117⟩, st117⟩ := X95.virtualBack hx (y := (⟨"com/example/millrace/millrace/runtime/aggregate/Count", "equals", "(Ljava/lang/Object;)Z"⟩ : MethodName)) (z := (⟨"com/example/millrace/millrace/runtime/aggregate/Count", "equals", "(Ljava/lang/Object;)Z"⟩ : MethodName)) hown (mvT hZ (hw _ (List.mem_of_getElem? (i := 40) rfl))) (mvT hZ (hw _ (List.mem_of_getElem? (i := 41) rfl))) (notFace_of_selects (args := #[]) (mvT hZ (hw _ (List.mem_of_getElem? (i := 43) rfl)))) (mvT hZ (hw _ (List.mem_of_getElem? (i := 43) rfl))) (mvT hZ (hw _ (List.mem_of_getElem? (i := 42) rfl))) (by decide) (backOf (W := 0) (rm8 l Z a0 hw [] b13 b13 (f4_o0 (((p1.toUInt32 >>> ((4 : Int32) &&& 31).toUInt32).toInt32) &&& (3 : Int32)) (f0_v55 p1) (f4_o0 (((p1.toUInt32 >>> ((2 : Int32) &&& 31).toUInt32).toInt32) &&& (3 : Int32)) (f4 (p1 &&& (3 : Int32)) (0 : Int32) (0 : Int64)) (f4_o0 (p1 &&& (3 : Int32)) (0 : Int32) (0 : Int64)))) (f4_o0 (((p1.toUInt32 >>> ((4 : Int32) &&& 31).toUInt32).toInt32) &&& (3 : Int32)) (f0_v55 p1) (f4_o0 (((p1.toUInt32 >>> ((2 : Int32) &&& 31).toUInt32).toInt32) &&& (3 : Int32)) (f4 (p1 &&& (3 : Int32)) (0 : Int32) (0 : Int64)) (f4_o0 (p1 &&& (3 : Int32)) (0 : Int32) (0 : Int64)))) T95.heap n0 c96 c104 c103 c104) hZ (hw _ (List.mem_of_getElem? (i := 44) rfl)) (hw _ (List.mem_of_getElem? (i := 9) rfl)) (by decide) (by decide)) q117a q117c (g := (mkF m 199 #[.val (.int p1), .val (.int p2), .val (.int p3), .val (.int p4), .val (.ref r5), .val (.ref b13), .val (.ref b23), .val (.int (f0_v71 p1)), .val (.int (f0_v120 p2)), .val (.int (p3 &&& (3 : Int32))), .val (.ref b13), .val (.int (1 : Int32)), .unset, .unset] [(.ref b13), (.ref b13)])) rfl (by rw [hml]; rfl) (Steps.refl _) (argsL := [(.ref b13)]) (rest := []) (lenOf pd_6 rfl) rfl (by show 2 * 0 + _ ≤ _; exact Nat.le_of_eq rfl) (hb hby at_199) (fun _ _ => ⟨rfl, rfl, (by decide : 3 + 0 ≤ _), (by decide : 3 + 0 ≤ _)⟩)
        dsimp only [Pt.U, Pt.locs, Pt.cells, Pt.slots] at X117 l117 y117 z117 st117 hQ117
        subst l117 y117 z117
        obtain ⟨rfl, N117q, e117⟩ := hQ117
        have N117 := Fr.app N95 N117q
        obtain ⟨cq118, kq118, q118a, q118b, q118c⟩ := isOf hZ e117 c105
        obtain ⟨_, _, ⟨T118, L118, k118, n118⟩, -, X118, ⟨Lc118, hQ118, l118, y118, z118⟩, st118⟩ := X117.virtualBack hx (y := (⟨"com/example/millrace/millrace/runtime/aggregate/Count", "equals", "(Ljava/lang/Object;)Z"⟩ : MethodName)) (z := (⟨"com/example/millrace/millrace/runtime/aggregate/Count", "equals", "(Ljava/lang/Object;)Z"⟩ : MethodName)) hown (mvT hZ (hw _ (List.mem_of_getElem? (i := 40) rfl))) (mvT hZ (hw _ (List.mem_of_getElem? (i := 41) rfl))) (notFace_of_selects (args := #[]) (mvT hZ (hw _ (List.mem_of_getElem? (i := 43) rfl)))) (mvT hZ (hw _ (List.mem_of_getElem? (i := 43) rfl))) (mvT hZ (hw _ (List.mem_of_getElem? (i := 42) rfl))) (by decide) (backOf (W := 0) (rm8 l Z a0 hw [] b23 b13 (f4_o0 (((p2.toUInt32 >>> ((4 : Int32) &&& 31).toUInt32).toInt32) &&& (3 : Int32)) (f0_v104 p2) (f4_o0 (((p2.toUInt32 >>> ((2 : Int32) &&& 31).toUInt32).toInt32) &&& (3 : Int32)) (f4 (p2 &&& (3 : Int32)) (0 : Int32) (0 : Int64)) (f4_o0 (p2 &&& (3 : Int32)) (0 : Int32) (0 : Int64)))) (f4_o0 (((p1.toUInt32 >>> ((4 : Int32) &&& 31).toUInt32).toInt32) &&& (3 : Int32)) (f0_v55 p1) (f4_o0 (((p1.toUInt32 >>> ((2 : Int32) &&& 31).toUInt32).toInt32) &&& (3 : Int32)) (f4 (p1 &&& (3 : Int32)) (0 : Int32) (0 : Int64)) (f4_o0 (p1 &&& (3 : Int32)) (0 : Int32) (0 : Int64)))) T95.heap n0 c96 c106 c103 c104) hZ (hw _ (List.mem_of_getElem? (i := 44) rfl)) (hw _ (List.mem_of_getElem? (i := 9) rfl)) (by decide) (by decide)) q118a q118c (g := (mkF m 208 #[.val (.int p1), .val (.int p2), .val (.int p3), .val (.int p4), .val (.ref r5), .val (.ref b13), .val (.ref b23), .val (.int (f0_v71 p1)), .val (.int (f0_v120 p2)), .val (.int (p3 &&& (3 : Int32))), .val (.ref b13), .val (.int (1 : Int32)), .val (.int (f0_v202_6 p1)), .unset] [(.ref b13), (.ref b23)])) rfl (by rw [hml]; rfl) (Steps.refl _) (argsL := [(.ref b13)]) (rest := []) (lenOf pd_6 rfl) rfl (by show 2 * 0 + _ ≤ _; exact Nat.le_of_eq rfl) (hb hby at_208) (fun _ _ => ⟨rfl, e117, (by decide : 3 + 0 ≤ _), (by decide : 3 + 0 ≤ _)⟩)
        dsimp only [Pt.U, Pt.locs, Pt.cells, Pt.slots] at X118 l118 y118 z118 st118 hQ118
        subst l118 y118 z118
        obtain ⟨rfl, N118q, e118⟩ := hQ118
        have N118 := Fr.app N117 N118q
        have pre32 : ∀ t, Steps p.tables e below (T118.setTop (mkF m 217 #[.val (.int p1), .val (.int p2), .val (.int p3), .val (.int p4), .val (.ref r5), .val (.ref b13), .val (.ref b23), .val (.int (f0_v71 p1)), .val (.int (f0_v120 p2)), .val (.int (p3 &&& (3 : Int32))), .val (.ref b13), .val (.int (1 : Int32)), .val (.int (f0_v202_6 p1)), .val (.int (f0_v211 p1 p2))] [(.int (1 : Int32)), (.int (f0_v202_6 p1))])) t → Steps p.tables e below (s₁.setTop (entryFrame m #[(.int p1), (.int p2), (.int p3), (.int p4)] maxLocals)) t := by
          intro t k
          refine pre23 t ?_
          show Steps p.tables e below (T95.setTop (mkF m 171 #[.val (.int p1), .val (.int p2), .val (.int p3), .val (.int p4), .val (.ref r5), .val (.ref b13), .val (.ref b23), .val (.int (f0_v71 p1)), .val (.int (f0_v120 p2)), .val (.int (p3 &&& (3 : Int32))), .unset, .unset, .unset, .unset] [(.int (2 : Int32)), (.int (p3 &&& (3 : Int32)))])) _
          refine XS.icmpYes X95.here hx rfl (pc0 := 171) (pc' := 188) rfl (hb hby at_171) rfl (feq hc171).2 (by decide) (by decide) ?_
          show Steps p.tables e below (T95.setTop (mkF m 188 #[.val (.int p1), .val (.int p2), .val (.int p3), .val (.int p4), .val (.ref r5), .val (.ref b13), .val (.ref b23), .val (.int (f0_v71 p1)), .val (.int (f0_v120 p2)), .val (.int (p3 &&& (3 : Int32))), .unset, .unset, .unset, .unset] [])) _
          refine XS.aload X95.here hx rfl (hb hby at_188) rfl rfl ?_
          show Steps p.tables e below (T95.setTop (mkF m 190 #[.val (.int p1), .val (.int p2), .val (.int p3), .val (.int p4), .val (.ref r5), .val (.ref b13), .val (.ref b23), .val (.int (f0_v71 p1)), .val (.int (f0_v120 p2)), .val (.int (p3 &&& (3 : Int32))), .unset, .unset, .unset, .unset] [(.ref b13)])) _
          refine XS.astore X95.here hx rfl (hb hby at_190) rfl rfl (l' := #[.val (.int p1), .val (.int p2), .val (.int p3), .val (.int p4), .val (.ref r5), .val (.ref b13), .val (.ref b23), .val (.int (f0_v71 p1)), .val (.int (f0_v120 p2)), .val (.int (p3 &&& (3 : Int32))), .val (.ref b13), .unset, .unset, .unset]) rfl ?_
          show Steps p.tables e below (T95.setTop (mkF m 192 #[.val (.int p1), .val (.int p2), .val (.int p3), .val (.int p4), .val (.ref r5), .val (.ref b13), .val (.ref b23), .val (.int (f0_v71 p1)), .val (.int (f0_v120 p2)), .val (.int (p3 &&& (3 : Int32))), .val (.ref b13), .unset, .unset, .unset] [])) _
          refine XS.iconst X95.here hx rfl (hb hby at_192) ?_
          show Steps p.tables e below (T95.setTop (mkF m 193 #[.val (.int p1), .val (.int p2), .val (.int p3), .val (.int p4), .val (.ref r5), .val (.ref b13), .val (.ref b23), .val (.int (f0_v71 p1)), .val (.int (f0_v120 p2)), .val (.int (p3 &&& (3 : Int32))), .val (.ref b13), .unset, .unset, .unset] [(.int (1 : Int32))])) _
          refine XS.istore X95.here hx rfl (hb hby at_193) rfl (l' := #[.val (.int p1), .val (.int p2), .val (.int p3), .val (.int p4), .val (.ref r5), .val (.ref b13), .val (.ref b23), .val (.int (f0_v71 p1)), .val (.int (f0_v120 p2)), .val (.int (p3 &&& (3 : Int32))), .val (.ref b13), .val (.int (1 : Int32)), .unset, .unset]) rfl ?_
          show Steps p.tables e below (T95.setTop (mkF m 195 #[.val (.int p1), .val (.int p2), .val (.int p3), .val (.int p4), .val (.ref r5), .val (.ref b13), .val (.ref b23), .val (.int (f0_v71 p1)), .val (.int (f0_v120 p2)), .val (.int (p3 &&& (3 : Int32))), .val (.ref b13), .val (.int (1 : Int32)), .unset, .unset] [])) _
          refine XS.aload X95.here hx rfl (hb hby at_195) rfl rfl ?_
          show Steps p.tables e below (T95.setTop (mkF m 197 #[.val (.int p1), .val (.int p2), .val (.int p3), .val (.int p4), .val (.ref r5), .val (.ref b13), .val (.ref b23), .val (.int (f0_v71 p1)), .val (.int (f0_v120 p2)), .val (.int (p3 &&& (3 : Int32))), .val (.ref b13), .val (.int (1 : Int32)), .unset, .unset] [(.ref b13)])) _
          refine XS.aload X95.here hx rfl (hb hby at_197) rfl rfl ?_
          show Steps p.tables e below (T95.setTop (mkF m 199 #[.val (.int p1), .val (.int p2), .val (.int p3), .val (.int p4), .val (.ref r5), .val (.ref b13), .val (.ref b23), .val (.int (f0_v71 p1)), .val (.int (f0_v120 p2)), .val (.int (p3 &&& (3 : Int32))), .val (.ref b13), .val (.int (1 : Int32)), .unset, .unset] [(.ref b13), (.ref b13)])) _
          refine st117.trans ?_
          show Steps p.tables e below (T117.setTop (mkF m 202 #[.val (.int p1), .val (.int p2), .val (.int p3), .val (.int p4), .val (.ref r5), .val (.ref b13), .val (.ref b23), .val (.int (f0_v71 p1)), .val (.int (f0_v120 p2)), .val (.int (p3 &&& (3 : Int32))), .val (.ref b13), .val (.int (1 : Int32)), .unset, .unset] [(.int (f8 (f4_o0 (((p1.toUInt32 >>> ((4 : Int32) &&& 31).toUInt32).toInt32) &&& (3 : Int32)) (f0_v55 p1) (f4_o0 (((p1.toUInt32 >>> ((2 : Int32) &&& 31).toUInt32).toInt32) &&& (3 : Int32)) (f4 (p1 &&& (3 : Int32)) (0 : Int32) (0 : Int64)) (f4_o0 (p1 &&& (3 : Int32)) (0 : Int32) (0 : Int64)))) (f4_o0 (((p1.toUInt32 >>> ((4 : Int32) &&& 31).toUInt32).toInt32) &&& (3 : Int32)) (f0_v55 p1) (f4_o0 (((p1.toUInt32 >>> ((2 : Int32) &&& 31).toUInt32).toInt32) &&& (3 : Int32)) (f4 (p1 &&& (3 : Int32)) (0 : Int32) (0 : Int64)) (f4_o0 (p1 &&& (3 : Int32)) (0 : Int32) (0 : Int64))))))])) _
          refine XS.istore X117.here hx rfl (hb hby at_202) rfl (l' := #[.val (.int p1), .val (.int p2), .val (.int p3), .val (.int p4), .val (.ref r5), .val (.ref b13), .val (.ref b23), .val (.int (f0_v71 p1)), .val (.int (f0_v120 p2)), .val (.int (p3 &&& (3 : Int32))), .val (.ref b13), .val (.int (1 : Int32)), .val (.int (f0_v202_6 p1)), .unset]) rfl ?_
          show Steps p.tables e below (T117.setTop (mkF m 204 #[.val (.int p1), .val (.int p2), .val (.int p3), .val (.int p4), .val (.ref r5), .val (.ref b13), .val (.ref b23), .val (.int (f0_v71 p1)), .val (.int (f0_v120 p2)), .val (.int (p3 &&& (3 : Int32))), .val (.ref b13), .val (.int (1 : Int32)), .val (.int (f0_v202_6 p1)), .unset] [])) _
          refine XS.aload X117.here hx rfl (hb hby at_204) rfl rfl ?_
          show Steps p.tables e below (T117.setTop (mkF m 206 #[.val (.int p1), .val (.int p2), .val (.int p3), .val (.int p4), .val (.ref r5), .val (.ref b13), .val (.ref b23), .val (.int (f0_v71 p1)), .val (.int (f0_v120 p2)), .val (.int (p3 &&& (3 : Int32))), .val (.ref b13), .val (.int (1 : Int32)), .val (.int (f0_v202_6 p1)), .unset] [(.ref b23)])) _
          refine XS.aload X117.here hx rfl (hb hby at_206) rfl rfl ?_
          show Steps p.tables e below (T117.setTop (mkF m 208 #[.val (.int p1), .val (.int p2), .val (.int p3), .val (.int p4), .val (.ref r5), .val (.ref b13), .val (.ref b23), .val (.int (f0_v71 p1)), .val (.int (f0_v120 p2)), .val (.int (p3 &&& (3 : Int32))), .val (.ref b13), .val (.int (1 : Int32)), .val (.int (f0_v202_6 p1)), .unset] [(.ref b13), (.ref b23)])) _
          refine st118.trans ?_
          show Steps p.tables e below (T118.setTop (mkF m 211 #[.val (.int p1), .val (.int p2), .val (.int p3), .val (.int p4), .val (.ref r5), .val (.ref b13), .val (.ref b23), .val (.int (f0_v71 p1)), .val (.int (f0_v120 p2)), .val (.int (p3 &&& (3 : Int32))), .val (.ref b13), .val (.int (1 : Int32)), .val (.int (f0_v202_6 p1)), .unset] [(.int (f8 (f4_o0 (((p2.toUInt32 >>> ((4 : Int32) &&& 31).toUInt32).toInt32) &&& (3 : Int32)) (f0_v104 p2) (f4_o0 (((p2.toUInt32 >>> ((2 : Int32) &&& 31).toUInt32).toInt32) &&& (3 : Int32)) (f4 (p2 &&& (3 : Int32)) (0 : Int32) (0 : Int64)) (f4_o0 (p2 &&& (3 : Int32)) (0 : Int32) (0 : Int64)))) (f4_o0 (((p1.toUInt32 >>> ((4 : Int32) &&& 31).toUInt32).toInt32) &&& (3 : Int32)) (f0_v55 p1) (f4_o0 (((p1.toUInt32 >>> ((2 : Int32) &&& 31).toUInt32).toInt32) &&& (3 : Int32)) (f4 (p1 &&& (3 : Int32)) (0 : Int32) (0 : Int64)) (f4_o0 (p1 &&& (3 : Int32)) (0 : Int32) (0 : Int64))))))])) _
          refine XS.istore X118.here hx rfl (hb hby at_211) rfl (l' := #[.val (.int p1), .val (.int p2), .val (.int p3), .val (.int p4), .val (.ref r5), .val (.ref b13), .val (.ref b23), .val (.int (f0_v71 p1)), .val (.int (f0_v120 p2)), .val (.int (p3 &&& (3 : Int32))), .val (.ref b13), .val (.int (1 : Int32)), .val (.int (f0_v202_6 p1)), .val (.int (f0_v211 p1 p2))]) rfl ?_
          show Steps p.tables e below (T118.setTop (mkF m 213 #[.val (.int p1), .val (.int p2), .val (.int p3), .val (.int p4), .val (.ref r5), .val (.ref b13), .val (.ref b23), .val (.int (f0_v71 p1)), .val (.int (f0_v120 p2)), .val (.int (p3 &&& (3 : Int32))), .val (.ref b13), .val (.int (1 : Int32)), .val (.int (f0_v202_6 p1)), .val (.int (f0_v211 p1 p2))] [])) _
          refine XS.iload X118.here hx rfl (hb hby at_213) rfl ?_
          show Steps p.tables e below (T118.setTop (mkF m 215 #[.val (.int p1), .val (.int p2), .val (.int p3), .val (.int p4), .val (.ref r5), .val (.ref b13), .val (.ref b23), .val (.int (f0_v71 p1)), .val (.int (f0_v120 p2)), .val (.int (p3 &&& (3 : Int32))), .val (.ref b13), .val (.int (1 : Int32)), .val (.int (f0_v202_6 p1)), .val (.int (f0_v211 p1 p2))] [(.int (f0_v202_6 p1))])) _
          refine XS.iload X118.here hx rfl (hb hby at_215) rfl ?_
          exact k
        by_cases hc217 : (f0_v202_6 p1) = (1 : Int32)
        · have pre33 : ∀ t, Steps p.tables e below (T118.setTop (mkF m 226 #[.val (.int p1), .val (.int p2), .val (.int p3), .val (.int p4), .val (.ref r5), .val (.ref b13), .val (.ref b23), .val (.int (f0_v71 p1)), .val (.int (f0_v120 p2)), .val (.int (p3 &&& (3 : Int32))), .val (.ref b13), .val (.int (1 : Int32)), .val (.int (f0_v202_6 p1)), .val (.int (f0_v211 p1 p2))] [(.int (f0_v120 p2)), (.int (f0_v71 p1)), (.int (f0_v211 p1 p2))])) t → Steps p.tables e below (s₁.setTop (entryFrame m #[(.int p1), (.int p2), (.int p3), (.int p4)] maxLocals)) t := by
            intro t k
            refine pre32 t ?_
            show Steps p.tables e below (T118.setTop (mkF m 217 #[.val (.int p1), .val (.int p2), .val (.int p3), .val (.int p4), .val (.ref r5), .val (.ref b13), .val (.ref b23), .val (.int (f0_v71 p1)), .val (.int (f0_v120 p2)), .val (.int (p3 &&& (3 : Int32))), .val (.ref b13), .val (.int (1 : Int32)), .val (.int (f0_v202_6 p1)), .val (.int (f0_v211 p1 p2))] [(.int (1 : Int32)), (.int (f0_v202_6 p1))])) _
            refine XS.icmpNo X118.here hx rfl (hb hby at_217) rfl (teq hc217).2 ?_
            show Steps p.tables e below (T118.setTop (mkF m 220 #[.val (.int p1), .val (.int p2), .val (.int p3), .val (.int p4), .val (.ref r5), .val (.ref b13), .val (.ref b23), .val (.int (f0_v71 p1)), .val (.int (f0_v120 p2)), .val (.int (p3 &&& (3 : Int32))), .val (.ref b13), .val (.int (1 : Int32)), .val (.int (f0_v202_6 p1)), .val (.int (f0_v211 p1 p2))] [])) _
            refine XS.iload X118.here hx rfl (hb hby at_220) rfl ?_
            show Steps p.tables e below (T118.setTop (mkF m 222 #[.val (.int p1), .val (.int p2), .val (.int p3), .val (.int p4), .val (.ref r5), .val (.ref b13), .val (.ref b23), .val (.int (f0_v71 p1)), .val (.int (f0_v120 p2)), .val (.int (p3 &&& (3 : Int32))), .val (.ref b13), .val (.int (1 : Int32)), .val (.int (f0_v202_6 p1)), .val (.int (f0_v211 p1 p2))] [(.int (f0_v211 p1 p2))])) _
            refine XS.iload X118.here hx rfl (hb hby at_222) rfl ?_
            show Steps p.tables e below (T118.setTop (mkF m 224 #[.val (.int p1), .val (.int p2), .val (.int p3), .val (.int p4), .val (.ref r5), .val (.ref b13), .val (.ref b23), .val (.int (f0_v71 p1)), .val (.int (f0_v120 p2)), .val (.int (p3 &&& (3 : Int32))), .val (.ref b13), .val (.int (1 : Int32)), .val (.int (f0_v202_6 p1)), .val (.int (f0_v211 p1 p2))] [(.int (f0_v71 p1)), (.int (f0_v211 p1 p2))])) _
            refine XS.iload X118.here hx rfl (hb hby at_224) rfl ?_
            exact k
          have pre34 : ∀ t, Steps p.tables e below (T118.setTop (mkF m 234 #[.val (.int p1), .val (.int p2), .val (.int p3), .val (.int p4), .val (.ref r5), .val (.ref b13), .val (.ref b23), .val (.int (f0_v71 p1)), .val (.int (f0_v120 p2)), .val (.int (p3 &&& (3 : Int32))), .val (.ref b13), .val (.int (1 : Int32)), .val (.int (f0_v202_6 p1)), .val (.int (f0_v211 p1 p2))] [(.int (f0_s0_234_7 p1 p2)), (.int (f0_v211 p1 p2))])) t → Steps p.tables e below (s₁.setTop (entryFrame m #[(.int p1), (.int p2), (.int p3), (.int p4)] maxLocals)) t := by
            intro t k
            by_cases hc226 : (f0_v71 p1) = (f0_v120 p2)
            · have eq35 := (show (f0_s0_234_7 p1 p2) = (1 : Int32) from by unfold f0_s0_234_7; simp only [if_pos hc226])
              try rw [eq35] at k
              refine pre33 t ?_
              show Steps p.tables e below (T118.setTop (mkF m 226 #[.val (.int p1), .val (.int p2), .val (.int p3), .val (.int p4), .val (.ref r5), .val (.ref b13), .val (.ref b23), .val (.int (f0_v71 p1)), .val (.int (f0_v120 p2)), .val (.int (p3 &&& (3 : Int32))), .val (.ref b13), .val (.int (1 : Int32)), .val (.int (f0_v202_6 p1)), .val (.int (f0_v211 p1 p2))] [(.int (f0_v120 p2)), (.int (f0_v71 p1)), (.int (f0_v211 p1 p2))])) _
              refine XS.icmpNo X118.here hx rfl (hb hby at_226) rfl (teq hc226).2 ?_
              show Steps p.tables e below (T118.setTop (mkF m 229 #[.val (.int p1), .val (.int p2), .val (.int p3), .val (.int p4), .val (.ref r5), .val (.ref b13), .val (.ref b23), .val (.int (f0_v71 p1)), .val (.int (f0_v120 p2)), .val (.int (p3 &&& (3 : Int32))), .val (.ref b13), .val (.int (1 : Int32)), .val (.int (f0_v202_6 p1)), .val (.int (f0_v211 p1 p2))] [(.int (f0_v211 p1 p2))])) _
              refine XS.iconst X118.here hx rfl (hb hby at_229) ?_
              show Steps p.tables e below (T118.setTop (mkF m 230 #[.val (.int p1), .val (.int p2), .val (.int p3), .val (.int p4), .val (.ref r5), .val (.ref b13), .val (.ref b23), .val (.int (f0_v71 p1)), .val (.int (f0_v120 p2)), .val (.int (p3 &&& (3 : Int32))), .val (.ref b13), .val (.int (1 : Int32)), .val (.int (f0_v202_6 p1)), .val (.int (f0_v211 p1 p2))] [(.int (1 : Int32)), (.int (f0_v211 p1 p2))])) _
              refine XS.goto X118.here hx rfl (pc0 := 230) (pc' := 234) rfl (hb hby at_230) (by decide) (by decide) ?_
              exact k
            · have eq36 := (show (f0_s0_234_7 p1 p2) = (0 : Int32) from by unfold f0_s0_234_7; simp only [if_neg hc226])
              try rw [eq36] at k
              refine pre33 t ?_
              show Steps p.tables e below (T118.setTop (mkF m 226 #[.val (.int p1), .val (.int p2), .val (.int p3), .val (.int p4), .val (.ref r5), .val (.ref b13), .val (.ref b23), .val (.int (f0_v71 p1)), .val (.int (f0_v120 p2)), .val (.int (p3 &&& (3 : Int32))), .val (.ref b13), .val (.int (1 : Int32)), .val (.int (f0_v202_6 p1)), .val (.int (f0_v211 p1 p2))] [(.int (f0_v120 p2)), (.int (f0_v71 p1)), (.int (f0_v211 p1 p2))])) _
              refine XS.icmpYes X118.here hx rfl (pc0 := 226) (pc' := 233) rfl (hb hby at_226) rfl (feq hc226).2 (by decide) (by decide) ?_
              show Steps p.tables e below (T118.setTop (mkF m 233 #[.val (.int p1), .val (.int p2), .val (.int p3), .val (.int p4), .val (.ref r5), .val (.ref b13), .val (.ref b23), .val (.int (f0_v71 p1)), .val (.int (f0_v120 p2)), .val (.int (p3 &&& (3 : Int32))), .val (.ref b13), .val (.int (1 : Int32)), .val (.int (f0_v202_6 p1)), .val (.int (f0_v211 p1 p2))] [(.int (f0_v211 p1 p2))])) _
              refine XS.iconst X118.here hx rfl (hb hby at_233) ?_
              exact k
          by_cases hc234 : (f0_v211 p1 p2) = (f0_s0_234_7 p1 p2)
          · have eq37 : (f0 p1 p2 p3 p4 w_high z_w_ic z_w_lc) = (1 : Int32) := by unfold f0; simp only [if_neg hc129, if_neg hc156, if_neg hc171, if_pos hc217, if_pos hc234]
            obtain ⟨fs, hr, hrun, hended, hW, hsame⟩ := X118.leave (v := some (.int (1 : Int32))) (fun h => by rw [Bd.returns] at h; cases h)
            refine ⟨_, _, pre34 _ ?_, hrun, hended, _, _, rfl, ?_, ⟨_, rfl⟩, hW, hsame.mono (by decide) (by decide)⟩
            · show Steps p.tables e below (T118.setTop (mkF m 234 #[.val (.int p1), .val (.int p2), .val (.int p3), .val (.int p4), .val (.ref r5), .val (.ref b13), .val (.ref b23), .val (.int (f0_v71 p1)), .val (.int (f0_v120 p2)), .val (.int (p3 &&& (3 : Int32))), .val (.ref b13), .val (.int (1 : Int32)), .val (.int (f0_v202_6 p1)), .val (.int (f0_v211 p1 p2))] [(.int (f0_s0_234_7 p1 p2)), (.int (f0_v211 p1 p2))])) _
              refine XS.icmpNo X118.here hx rfl (hb hby at_234) rfl (teq hc234).2 ?_
              show Steps p.tables e below (T118.setTop (mkF m 237 #[.val (.int p1), .val (.int p2), .val (.int p3), .val (.int p4), .val (.ref r5), .val (.ref b13), .val (.ref b23), .val (.int (f0_v71 p1)), .val (.int (f0_v120 p2)), .val (.int (p3 &&& (3 : Int32))), .val (.ref b13), .val (.int (1 : Int32)), .val (.int (f0_v202_6 p1)), .val (.int (f0_v211 p1 p2))] [])) _
              refine XS.iconst X118.here hx rfl (hb hby at_237) ?_
              show Steps p.tables e below (T118.setTop (mkF m 238 #[.val (.int p1), .val (.int p2), .val (.int p3), .val (.int p4), .val (.ref r5), .val (.ref b13), .val (.ref b23), .val (.int (f0_v71 p1)), .val (.int (f0_v120 p2)), .val (.int (p3 &&& (3 : Int32))), .val (.ref b13), .val (.int (1 : Int32)), .val (.int (f0_v202_6 p1)), .val (.int (f0_v211 p1 p2))] [(.int (1 : Int32))])) _
              refine XS.goto X118.here hx rfl (pc0 := 238) (pc' := 242) rfl (hb hby at_238) (by decide) (by decide) ?_
              show Steps p.tables e below (T118.setTop (mkF m 242 #[.val (.int p1), .val (.int p2), .val (.int p3), .val (.int p4), .val (.ref r5), .val (.ref b13), .val (.ref b23), .val (.int (f0_v71 p1)), .val (.int (f0_v120 p2)), .val (.int (p3 &&& (3 : Int32))), .val (.ref b13), .val (.int (1 : Int32)), .val (.int (f0_v202_6 p1)), .val (.int (f0_v211 p1 p2))] [(.int (1 : Int32))])) _
              exact retN X118 hx (t := .boolean) Bd.returns (by simp) (hb hby at_242) hr
            · show Q0 Z p1 p2 p3 p4 w_high w_ic z_w_ic c_w_ic w_lc z_w_lc c_w_lc h0 n0 _ T118.heap _
              rw [e118]
              exact ⟨by rw [eq37], N118, trivial⟩
          · have eq38 : (f0 p1 p2 p3 p4 w_high z_w_ic z_w_lc) = (0 : Int32) := by unfold f0; simp only [if_neg hc129, if_neg hc156, if_neg hc171, if_pos hc217, if_neg hc234]
            obtain ⟨fs, hr, hrun, hended, hW, hsame⟩ := X118.leave (v := some (.int (0 : Int32))) (fun h => by rw [Bd.returns] at h; cases h)
            refine ⟨_, _, pre34 _ ?_, hrun, hended, _, _, rfl, ?_, ⟨_, rfl⟩, hW, hsame.mono (by decide) (by decide)⟩
            · show Steps p.tables e below (T118.setTop (mkF m 234 #[.val (.int p1), .val (.int p2), .val (.int p3), .val (.int p4), .val (.ref r5), .val (.ref b13), .val (.ref b23), .val (.int (f0_v71 p1)), .val (.int (f0_v120 p2)), .val (.int (p3 &&& (3 : Int32))), .val (.ref b13), .val (.int (1 : Int32)), .val (.int (f0_v202_6 p1)), .val (.int (f0_v211 p1 p2))] [(.int (f0_s0_234_7 p1 p2)), (.int (f0_v211 p1 p2))])) _
              refine XS.icmpYes X118.here hx rfl (pc0 := 234) (pc' := 241) rfl (hb hby at_234) rfl (feq hc234).2 (by decide) (by decide) ?_
              show Steps p.tables e below (T118.setTop (mkF m 241 #[.val (.int p1), .val (.int p2), .val (.int p3), .val (.int p4), .val (.ref r5), .val (.ref b13), .val (.ref b23), .val (.int (f0_v71 p1)), .val (.int (f0_v120 p2)), .val (.int (p3 &&& (3 : Int32))), .val (.ref b13), .val (.int (1 : Int32)), .val (.int (f0_v202_6 p1)), .val (.int (f0_v211 p1 p2))] [])) _
              refine XS.iconst X118.here hx rfl (hb hby at_241) ?_
              show Steps p.tables e below (T118.setTop (mkF m 242 #[.val (.int p1), .val (.int p2), .val (.int p3), .val (.int p4), .val (.ref r5), .val (.ref b13), .val (.ref b23), .val (.int (f0_v71 p1)), .val (.int (f0_v120 p2)), .val (.int (p3 &&& (3 : Int32))), .val (.ref b13), .val (.int (1 : Int32)), .val (.int (f0_v202_6 p1)), .val (.int (f0_v211 p1 p2))] [(.int (0 : Int32))])) _
              exact retN X118 hx (t := .boolean) Bd.returns (by simp) (hb hby at_242) hr
            · show Q0 Z p1 p2 p3 p4 w_high w_ic z_w_ic c_w_ic w_lc z_w_lc c_w_lc h0 n0 _ T118.heap _
              rw [e118]
              exact ⟨by rw [eq38], N118, trivial⟩
        · have eq39 : (f0 p1 p2 p3 p4 w_high z_w_ic z_w_lc) = (0 : Int32) := by unfold f0; simp only [if_neg hc129, if_neg hc156, if_neg hc171, if_neg hc217]
          obtain ⟨fs, hr, hrun, hended, hW, hsame⟩ := X118.leave (v := some (.int (0 : Int32))) (fun h => by rw [Bd.returns] at h; cases h)
          refine ⟨_, _, pre32 _ ?_, hrun, hended, _, _, rfl, ?_, ⟨_, rfl⟩, hW, hsame.mono (by decide) (by decide)⟩
          · show Steps p.tables e below (T118.setTop (mkF m 217 #[.val (.int p1), .val (.int p2), .val (.int p3), .val (.int p4), .val (.ref r5), .val (.ref b13), .val (.ref b23), .val (.int (f0_v71 p1)), .val (.int (f0_v120 p2)), .val (.int (p3 &&& (3 : Int32))), .val (.ref b13), .val (.int (1 : Int32)), .val (.int (f0_v202_6 p1)), .val (.int (f0_v211 p1 p2))] [(.int (1 : Int32)), (.int (f0_v202_6 p1))])) _
            refine XS.icmpYes X118.here hx rfl (pc0 := 217) (pc' := 241) rfl (hb hby at_217) rfl (feq hc217).2 (by decide) (by decide) ?_
            show Steps p.tables e below (T118.setTop (mkF m 241 #[.val (.int p1), .val (.int p2), .val (.int p3), .val (.int p4), .val (.ref r5), .val (.ref b13), .val (.ref b23), .val (.int (f0_v71 p1)), .val (.int (f0_v120 p2)), .val (.int (p3 &&& (3 : Int32))), .val (.ref b13), .val (.int (1 : Int32)), .val (.int (f0_v202_6 p1)), .val (.int (f0_v211 p1 p2))] [])) _
            refine XS.iconst X118.here hx rfl (hb hby at_241) ?_
            show Steps p.tables e below (T118.setTop (mkF m 242 #[.val (.int p1), .val (.int p2), .val (.int p3), .val (.int p4), .val (.ref r5), .val (.ref b13), .val (.ref b23), .val (.int (f0_v71 p1)), .val (.int (f0_v120 p2)), .val (.int (p3 &&& (3 : Int32))), .val (.ref b13), .val (.int (1 : Int32)), .val (.int (f0_v202_6 p1)), .val (.int (f0_v211 p1 p2))] [(.int (0 : Int32))])) _
            exact retN X118 hx (t := .boolean) Bd.returns (by simp) (hb hby at_242) hr
          · show Q0 Z p1 p2 p3 p4 w_high w_ic z_w_ic c_w_ic w_lc z_w_lc c_w_lc h0 n0 _ T118.heap _
            rw [e118]
            exact ⟨by rw [eq39], N118, trivial⟩
theorem own_law (p1 p2 p3 p4 a b c : Int32) : f0 p1 p2 p3 p4 a b c = 1 := by
  have ha := own_v71 p1
  have hb := own_v71 p2
  have e1 : f0_v104 p2 = f0_v55 p2 := rfl
  have e2 : f0_v120 p2 = f0_v71 p2 := rfl
  simp only [f0, f0_v202, f0_v202_6, f0_v211, f0_s0_148, f0_s0_234, f0_s0_234_4, f0_s0_234_5, f0_s0_234_7, f8, f8n, f8l, e1, e2]
  generalize f4_o0 (((p1.toUInt32 >>> ((4 : Int32) &&& 31).toUInt32).toInt32) &&& (3 : Int32)) (f0_v55 p1) (f4_o0 (((p1.toUInt32 >>> ((2 : Int32) &&& 31).toUInt32).toInt32) &&& (3 : Int32)) (f4 (p1 &&& (3 : Int32)) (0 : Int32) (0 : Int64)) (f4_o0 (p1 &&& (3 : Int32)) (0 : Int32) (0 : Int64))) = x at *
  generalize f4_o0 (((p2.toUInt32 >>> ((4 : Int32) &&& 31).toUInt32).toInt32) &&& (3 : Int32)) (f0_v55 p2) (f4_o0 (((p2.toUInt32 >>> ((2 : Int32) &&& 31).toUInt32).toInt32) &&& (3 : Int32)) (f4 (p2 &&& (3 : Int32)) (0 : Int32) (0 : Int64)) (f4_o0 (p2 &&& (3 : Int32)) (0 : Int32) (0 : Int64))) = y at *
  generalize f0_v71 p1 = u at *
  generalize f0_v71 p2 = v at *
  have k1 : (x = y) ↔ (u = v) := by rw [← Int64.toInt_inj, ← Int32.toInt_inj]; omega
  have k2 : (y = x) ↔ (u = v) := by rw [← Int64.toInt_inj, ← Int32.toInt_inj]; omega
  simp [k1, k2]
set_option maxRecDepth 65536 in
set_option maxHeartbeats 40000000 in
theorem comes_1 {Post : Tables → Env → Array Value → State → Outcome → State → Prop} (hpost : ∀ tb e args s v u, (limb_1_1.after args s (.returned v) u = true ∧ limb_1_2.after args s (.returned v) u = true ∧ True) → FrameEnd s (.returned v) u (Jvm.fieldLocs frame_1_writes args s ++ Jvm.arrayLocs frame_1_arrays args s ++ Jvm.staticLocs frame_1_statics s) 16 128 → Post tb e args s (.returned v) u) :
    ArmFor flags0 classFile x code maxLocals ret World_1 tables_1 room_1 Calls_1 rest_1 Pre_1 Post := by
  intro l hfl _ _ p e ha hc hk s m args below hf hA hF happ hP
  obtain ⟨hcalls, hrest, hpre⟩ := hP
  obtain ⟨-, -, -, hnamed, -, -, -, hat⟩ := (Spec.applies_iff hf).mp happ
  obtain ⟨hg, hn⟩ := and_e (Cond.before_iff.mp (show (Jvm.Cond.and given_1 narrow_1).before args s = true from hpre))
  obtain ⟨g1, g2⟩ := and_e hg
  obtain ⟨g3, g4⟩ := and_e g2
  obtain ⟨g5, g6⟩ := and_e g4
  obtain ⟨g7, g8⟩ := and_e g6
  obtain ⟨w0, w1, w2, w3, rfl⟩ : ∃ w0 w1 w2 w3 : Value, args = #[w0, w1, w2, w3] := by
    have hs : args.size = 4 := by simpa [Cond.value, given_1] using g1
    obtain ⟨L⟩ := args
    match L, hs with
    | [w0, w1, w2, w3], _ => exact ⟨w0, w1, w2, w3, rfl⟩
  have hw := fun d (hd : d ∈ tables_1) => atoms_spec (ws := Jvm.Cond.code x code maxLocals ret :: tables_1) hat d (List.mem_cons_of_mem _ hd)
  have hfit : Fit s := fun {y c} hc i hi => by
    obtain ⟨ha, rfl⟩ := Array.getElem?_eq_some_iff.mp hc
    have q := List.all_eq_true.mp ((Array.all_eq_true_iff_forall_mem.mp hF) _ (Array.getElem_mem ha)) i (List.mem_range.mpr hi)
    simpa [Array.getElem?_eq_getElem hi] using q
  obtain ⟨i0, ei0⟩ := is_v g3
  obtain rfl : w0 = (.int i0) := Option.some.inj ei0
  obtain ⟨i1, ei1⟩ := is_v g5
  obtain rfl : w1 = (.int i1) := Option.some.inj ei1
  obtain ⟨i2, ei2⟩ := is_v g7
  obtain rfl : w2 = (.int i2) := Option.some.inj ei2
  obtain ⟨i3, ei3⟩ := is_v g8
  obtain rfl : w3 = (.int i3) := Option.some.inj ei3
  obtain ⟨hsets, hown0⟩ := atoms_of _ (rest_1_c_eq ▸ (show rest_1_c.before _ s = true from hrest))
  have e_hi := own_eqint (Cond.before_iff.mp (hsets _ (List.mem_of_getElem? (i := 3) rfl)))
  have S_hi : Sta s s.heap "java/lang/Integer$IntegerCache" "high" "I" (.int 127) := Sta.start e_hi (Or.inl (hsets _ (List.mem_of_getElem? (i := 1) rfl)))
  obtain ⟨a_IC, e_IC⟩ := arr_v (Cond.before_iff.mp (hsets _ (List.mem_of_getElem? (i := 4) rfl)))
  have S_IC : Sta s s.heap "java/lang/Integer$IntegerCache" "cache" "[Ljava/lang/Integer;" (.ref a_IC) := Sta.start e_IC (Or.inr ⟨(hw _ (List.mem_of_getElem? (i := 5) rfl)), (hsets _ (List.mem_of_getElem? (i := 2) rfl))⟩)
  obtain ⟨cl_IC, Ac_IC⟩ := Arr.start e_IC (Cond.before_iff.mp (hsets _ (List.mem_of_getElem? (i := 4) rfl)))
  have hat_IC := Arr.fin (Vm.Alike.refl _) Ac_IC
  obtain ⟨hl_IC, hsz_IC⟩ := own_len e_IC hat_IC (Cond.before_iff.mp (hsets _ (List.mem_of_getElem? (i := 6) rfl)))
  have al_IC := own_allE (fun _ => e_IC) hat_IC Ac_IC.1 hl_IC (Cond.before_iff.mp (hsets _ (List.mem_of_getElem? (i := 7) rfl)))
  have R_IC := own_toR Ac_IC hl_IC hsz_IC (by decide) (fun i hi => (al_IC i hi).1)
  have hn_IC : cl_IC.slots.size = 256 := by
    have h9 := len_toInt hl_IC
    rw [hsz_IC, show (256 : Int32).toInt = 256 from rfl] at h9
    omega
  obtain ⟨a_LC, e_LC⟩ := arr_v (Cond.before_iff.mp (hsets _ (List.mem_of_getElem? (i := 10) rfl)))
  have S_LC : Sta s s.heap "java/lang/Long$LongCache" "cache" "[Ljava/lang/Long;" (.ref a_LC) := Sta.start e_LC (Or.inl (hsets _ (List.mem_of_getElem? (i := 9) rfl)))
  obtain ⟨cl_LC, Ac_LC⟩ := Arr.start e_LC (Cond.before_iff.mp (hsets _ (List.mem_of_getElem? (i := 10) rfl)))
  have hat_LC := Arr.fin (Vm.Alike.refl _) Ac_LC
  obtain ⟨hl_LC, hsz_LC⟩ := own_len e_LC hat_LC (Cond.before_iff.mp (hsets _ (List.mem_of_getElem? (i := 12) rfl)))
  have al_LC := own_allE (fun _ => e_LC) hat_LC Ac_LC.1 hl_LC (Cond.before_iff.mp (hsets _ (List.mem_of_getElem? (i := 13) rfl)))
  have R_LC := own_toR Ac_LC hl_LC hsz_LC (by decide) (fun i hi => (al_LC i hi).1)
  have hn_LC : cl_LC.slots.size = 256 := by
    have h9 := len_toInt hl_LC
    rw [hsz_LC, show (256 : Int32).toInt = 256 from rfl] at h9
    omega
  have QL : ∀ i : Nat, i < 256 → Exa s s.heap (own_at cl_LC i) "java/lang/Long" := fun i hi => (al_LC i (by rw [hn_LC]; exact hi)).2
  obtain ⟨n, o, h1, h2, h3, v', L, rfl, ⟨hv', N, -⟩, hq⟩ := rm0 l s _ hw tables_1 i0 i1 i2 i3 127 a_IC 256 (own_at cl_IC) a_LC 256 (own_at cl_LC) s.heap s.heap.size (Nat.le_refl _) S_hi S_IC R_IC rfl rfl S_LC R_LC rfl QL p e ha hc hk s m _ below hf ((Spec.applies_iff_loose hf).mp happ).1 ⟨rfl, State.Warmed39.refl s, rfl⟩ trivial
  rw [own_law i0 i1 i2 i3 127 256 256] at hv'
  subst hv'
  refine ⟨n, _, h1, h2, h3, hpost _ _ _ _ _ _ ⟨Cond.after_iff.mpr rfl, Cond.after_iff.mpr (eq_i res_at (Term.int_eval (1)) rfl), trivial⟩ ⟨hq.1, hq.2.1, (hq.2.2.sift fun y hy => Or.inr (N y hy)).mono (by decide) (by decide)⟩⟩
theorem main_1_1 : Claimed_1_1 := comes_1 fun _ _ _ _ _ _ h hF => ⟨h.1, hF⟩
theorem main_1_2 : Claimed_1_2 := comes_1 fun _ _ _ _ _ _ h hF => ⟨h.2.1, hF⟩
end Jvm.Pilot.@@N@@
namespace Jvm.Pilot.@@N@@
open Jvm Jvm.ClassFile Sem Op Lib Jvm.Free Jvm.Stand Jvm.Pilot.@@N@@.Jvm.D
/-! MADE BY PROGRAM (witnessworld.py) out of the Statement's table words and the real class files: 20 classes; the members and pool entries that the words name. The judged class is class 1, her method 1. -/
namespace start1
open Jvm.ClassFile
def u (s : String) : CpInfo := .utf8 (stringToUtf16 s)
/-- a pool by its gaps: so many unusable entries, then the entry; so many at the end -/
def gap : Nat → List CpInfo → List CpInfo
  | 0, r => r
  | n + 1, r => .unusable :: gap n r
def poolList (es : List (Nat × CpInfo)) (last : Nat) : List CpInfo := es.foldr (fun e r => gap e.1 (e.2 :: r)) (gap last [])
def pool (es : List (Nat × CpInfo)) (last : Nat) : Array CpInfo := ⟨poolList es last⟩
def fileOf (pool : Array CpInfo) (this : Nat) (attrs : Array Attribute := #[]) (ms : Array MethodInfo := #[]) (fl : Nat := 33) (sup : Nat := 0) (ifs : Array Nat := #[]) (fds : Array FieldInfo := #[]) : ClassFile where
  minorVersion := 0
  majorVersion := 65
  constantPool := pool
  accessFlags := fl
  thisClass := this
  superClass := sup
  interfaces := ifs
  fields := fds
  methods := ms
  attributes := attrs
def plain (name : String) (sup : Option ClassId) : Class where
  name := name
  kind := .ordinary
  loader := none
  accessFlags := 33
  super := sup
  interfaces := #[]
  cf := none
  fields := #[]
  methods := #[]
  instanceTypes := #[]
  staticTypes := #[]
  resolved := #[]
  callSites := []
  init := .initialized
  statics := none
  mirror := none

def pool0 : Array CpInfo := pool [(5, u "<init>"), (0, u "()V"), (1, .class_ 10), (1, u "java/lang/Object")] 113

def k0c0 : Code := { maxStack := 0, maxLocals := 1, code := object_method_1_code, exceptionTable := #[], attributes := #[] }
def k0m0 : Method := { name := "<init>", desc := "()V", sig := { parameters := [], returnType := none }, accessFlags := 1, code := some k0c0 }
/-- java/lang/Object -/
def k0 : Class := { plain "java/lang/Object" none with
  accessFlags := 33
  interfaces := #[]
  cf := some (fileOf pool0 8 #[] #[{ accessFlags := 1, nameIndex := 5, descriptorIndex := 6, attributes := #[] }] 33 0 #[] #[])
  fields := #[]
  methods := #[k0m0]
  instanceTypes := #[]
  staticTypes := #[]
  resolved := Array.replicate 124 none
  statics := none }

def pool1 : Array CpInfo := pool [(2, .class_ 4), (0, .nameAndType 5 6), (0, u "java/lang/Object"), (0, u "<init>"), (0, u "()V"), (0, .methodref 8 9), (0, .class_ 10), (0, .nameAndType 11 12), (0, u "java/lang/Integer"), (0, u "valueOf"), (0, u "(I)Ljava/lang/Integer;"), (0, .class_ 14), (0, u "com/example/millrace/millrace/runtime/aggregate/Count"), (0, .methodref 13 3), (0, .methodref 17 18), (0, .class_ 19), (0, .nameAndType 20 21), (0, u "com/example/millrace/millrace/runtime/aggregate/CountEqualsPinLaw"), (0, u "step"), (0, u "(Lcom/example/millrace/millrace/runtime/aggregate/Count;ILjava/lang/Object;I)I"), (0, .methodref 23 24), (0, .class_ 25), (0, .nameAndType 11 26), (0, u "java/lang/Long"), (0, u "(J)Ljava/lang/Long;"), (0, .methodref 13 28), (0, .nameAndType 29 30), (0, u "equals"), (0, u "(Ljava/lang/Object;)Z"), (0, .methodref 13 32), (0, .nameAndType 33 34), (0, u "add"), (0, u "(Ljava/lang/Object;)V"), (0, .methodref 13 36), (0, .nameAndType 37 34), (0, u "remove"), (2, u "law"), (0, u "(IIII)Z")] 3

def k1m0 : Method := { name := "<init>", desc := "()V", sig := { parameters := [], returnType := none }, accessFlags := 1, code := none }
def k1c1 : Code := { maxStack := 4, maxLocals := 14, code := code, exceptionTable := #[], attributes := #[] }
def k1m1 : Method := { name := "law", desc := "(IIII)Z", sig := { parameters := [.int, .int, .int, .int], returnType := some .boolean }, accessFlags := 9, code := some k1c1 }
def k1c2 : Code := { maxStack := 2, maxLocals := 4, code := method_3_code, exceptionTable := #[], attributes := #[] }
def k1m2 : Method := { name := "step", desc := "(Lcom/example/millrace/millrace/runtime/aggregate/Count;ILjava/lang/Object;I)I", sig := { parameters := [(.object "com/example/millrace/millrace/runtime/aggregate/Count"), .int, (.object "java/lang/Object"), .int], returnType := some .int }, accessFlags := 10, code := some k1c2 }
/-- com/example/millrace/millrace/runtime/aggregate/CountEqualsPinLaw -/
def k1 : Class := { plain "com/example/millrace/millrace/runtime/aggregate/CountEqualsPinLaw" (some 0) with
  accessFlags := 49
  interfaces := #[]
  cf := some (fileOf pool1 17 #[] #[{ accessFlags := 1, nameIndex := 5, descriptorIndex := 6, attributes := #[] }, { accessFlags := 9, nameIndex := 40, descriptorIndex := 41, attributes := #[] }, { accessFlags := 10, nameIndex := 20, descriptorIndex := 21, attributes := #[] }] 49 2 #[] #[])
  fields := #[]
  methods := #[k1m0, k1m1, k1m2]
  instanceTypes := #[]
  staticTypes := #[]
  resolved := Array.replicate 45 none
  statics := none }

def pool2 : Array CpInfo := pool [(1, .class_ 2), (0, u "java/io/Serializable"), (0, .class_ 4), (0, u "java/lang/Object")] 2

/-- java/io/Serializable -/
def k2 : Class := { plain "java/io/Serializable" (some 0) with
  accessFlags := 1537
  interfaces := #[]
  cf := some (fileOf pool2 1 #[] #[] 1537 3 #[] #[])
  fields := #[]
  methods := #[]
  instanceTypes := #[]
  staticTypes := #[]
  resolved := Array.replicate 7 none
  statics := none }

def pool3 : Array CpInfo := pool [(1, .methodref 2 3), (0, .class_ 4), (0, .nameAndType 5 6), (0, u "java/lang/Object"), (0, u "<init>"), (0, u "()V"), (1, .class_ 10), (1, u "java/lang/Number"), (2, .class_ 14), (0, u "java/io/Serializable"), (0, u "serialVersionUID"), (0, u "J")] 20

def k3c0 : Code := { maxStack := 1, maxLocals := 1, code := jdk_18_method_1_code, exceptionTable := #[], attributes := #[] }
def k3m0 : Method := { name := "<init>", desc := "()V", sig := { parameters := [], returnType := none }, accessFlags := 1, code := some k3c0 }
/-- java/lang/Number -/
def k3 : Class := { plain "java/lang/Number" (some 0) with
  accessFlags := 1057
  interfaces := #[2]
  cf := some (fileOf pool3 8 #[] #[{ accessFlags := 1, nameIndex := 5, descriptorIndex := 6, attributes := #[] }] 1057 2 #[13] #[{ accessFlags := 26, nameIndex := 15, descriptorIndex := 16, attributes := #[] }])
  fields := #[{ name := "serialVersionUID", type := .long, accessFlags := 26, slot := 0, constantValue := 0 }]
  methods := #[k3m0]
  instanceTypes := #[]
  staticTypes := #[.long]
  resolved := Array.replicate 37 none
  statics := none }

def pool4 : Array CpInfo := pool [(1, .class_ 2), (0, u "java/lang/Comparable"), (0, .class_ 4), (0, u "java/lang/Object")] 7

/-- java/lang/Comparable -/
def k4 : Class := { plain "java/lang/Comparable" (some 0) with
  accessFlags := 1537
  interfaces := #[]
  cf := some (fileOf pool4 1 #[] #[] 1537 3 #[] #[])
  fields := #[]
  methods := #[]
  instanceTypes := #[]
  staticTypes := #[]
  resolved := Array.replicate 12 none
  statics := none }

def pool5 : Array CpInfo := pool [(1, .class_ 2), (0, u "java/lang/constant/Constable"), (0, .class_ 4), (0, u "java/lang/Object")] 6

/-- java/lang/constant/Constable -/
def k5 : Class := { plain "java/lang/constant/Constable" (some 0) with
  accessFlags := 1537
  interfaces := #[]
  cf := some (fileOf pool5 1 #[] #[] 1537 3 #[] #[])
  fields := #[]
  methods := #[]
  instanceTypes := #[]
  staticTypes := #[]
  resolved := Array.replicate 11 none
  statics := none }

def pool6 : Array CpInfo := pool [(1, .class_ 2), (0, u "java/lang/constant/ConstantDesc"), (0, .class_ 4), (0, u "java/lang/Object")] 32

/-- java/lang/constant/ConstantDesc -/
def k6 : Class := { plain "java/lang/constant/ConstantDesc" (some 0) with
  accessFlags := 1537
  interfaces := #[]
  cf := some (fileOf pool6 1 #[] #[] 1537 3 #[] #[])
  fields := #[]
  methods := #[]
  instanceTypes := #[]
  staticTypes := #[]
  resolved := Array.replicate 37 none
  statics := none }

def pool7 : Array CpInfo := pool [(1, .class_ 2), (0, u "java/lang/Integer"), (16, u "digits"), (0, u "[C"), (46, u "<init>"), (17, u "DigitOnes"), (0, u "[B"), (2, u "DigitTens"), (10, .nameAndType 67 101), (0, u "()V"), (85, u "valueOf"), (0, u "(I)Ljava/lang/Integer;"), (0, .class_ 190), (0, u "java/lang/Integer$IntegerCache"), (0, .fieldref 189 192), (0, .nameAndType 193 194), (0, u "high"), (0, u "I"), (0, .fieldref 189 196), (0, .nameAndType 197 198), (0, u "cache"), (0, u "[Ljava/lang/Integer;"), (0, .methodref 1 200), (0, .nameAndType 67 201), (0, u "(I)V"), (0, .methodref 203 100), (0, .class_ 204), (0, u "java/lang/Number"), (0, .fieldref 1 206), (0, .nameAndType 207 194), (0, u "value"), (94, u "TYPE"), (0, u "Ljava/lang/Class;"), (0, .class_ 305), (0, u "java/lang/Comparable"), (0, .class_ 307), (0, u "java/lang/constant/Constable"), (0, .class_ 309), (0, u "java/lang/constant/ConstantDesc"), (0, u "MIN_VALUE"), (1, u "MAX_VALUE"), (3, u "SIZE"), (1, u "BYTES"), (1, u "serialVersionUID"), (0, u "J")] 131

def k7c0 : Code := { maxStack := 3, maxLocals := 1, code := jdk_33_method_22_code, exceptionTable := #[], attributes := #[] }
def k7m0 : Method := { name := "valueOf", desc := "(I)Ljava/lang/Integer;", sig := { parameters := [.int], returnType := some (.object "java/lang/Integer") }, accessFlags := 9, code := some k7c0 }
def k7c1 : Code := { maxStack := 2, maxLocals := 2, code := jdk_33_method_23_code, exceptionTable := #[], attributes := #[] }
def k7m1 : Method := { name := "<init>", desc := "(I)V", sig := { parameters := [.int], returnType := none }, accessFlags := 1, code := some k7c1 }
/-- java/lang/Integer -/
def k7 : Class := { plain "java/lang/Integer" (some 3) with
  accessFlags := 49
  interfaces := #[4, 5, 6]
  cf := some (fileOf pool7 1 #[.nestMembers #[189]] #[{ accessFlags := 9, nameIndex := 187, descriptorIndex := 188, attributes := #[] }, { accessFlags := 1, nameIndex := 67, descriptorIndex := 201, attributes := #[] }] 49 203 #[304, 306, 308] #[{ accessFlags := 25, nameIndex := 310, descriptorIndex := 194, attributes := #[] }, { accessFlags := 25, nameIndex := 312, descriptorIndex := 194, attributes := #[] }, { accessFlags := 25, nameIndex := 302, descriptorIndex := 303, attributes := #[] }, { accessFlags := 24, nameIndex := 19, descriptorIndex := 20, attributes := #[] }, { accessFlags := 24, nameIndex := 89, descriptorIndex := 86, attributes := #[] }, { accessFlags := 24, nameIndex := 85, descriptorIndex := 86, attributes := #[] }, { accessFlags := 18, nameIndex := 207, descriptorIndex := 194, attributes := #[] }, { accessFlags := 25, nameIndex := 316, descriptorIndex := 194, attributes := #[] }, { accessFlags := 25, nameIndex := 318, descriptorIndex := 194, attributes := #[] }, { accessFlags := 26, nameIndex := 320, descriptorIndex := 321, attributes := #[] }])
  fields := #[{ name := "MIN_VALUE", type := .int, accessFlags := 25, slot := 0, constantValue := 0 }, { name := "MAX_VALUE", type := .int, accessFlags := 25, slot := 1, constantValue := 0 }, { name := "TYPE", type := (.object "java/lang/Class"), accessFlags := 25, slot := 2, constantValue := 0 }, { name := "digits", type := (.array .char), accessFlags := 24, slot := 3, constantValue := 0 }, { name := "DigitTens", type := (.array .byte), accessFlags := 24, slot := 4, constantValue := 0 }, { name := "DigitOnes", type := (.array .byte), accessFlags := 24, slot := 5, constantValue := 0 }, { name := "value", type := .int, accessFlags := 18, slot := 0, constantValue := 0 }, { name := "SIZE", type := .int, accessFlags := 25, slot := 6, constantValue := 0 }, { name := "BYTES", type := .int, accessFlags := 25, slot := 7, constantValue := 0 }, { name := "serialVersionUID", type := .long, accessFlags := 26, slot := 8, constantValue := 0 }]
  methods := #[k7m0, k7m1]
  instanceTypes := #[.int]
  staticTypes := #[.int, .int, (.object "java/lang/Class"), (.array .char), (.array .byte), (.array .byte), .int, .int, .long]
  resolved := Array.replicate 453 none
  statics := none }

def pool8 : Array CpInfo := pool [(2, .class_ 4), (1, u "java/lang/Object"), (0, u "<init>"), (0, u "()V"), (0, .class_ 8), (0, u "java/lang/Integer"), (7, .class_ 18), (1, u "java/lang/Integer$IntegerCache"), (0, u "$assertionsDisabled"), (0, u "Z"), (26, u "high"), (0, u "I"), (8, u "archivedCache"), (0, u "[Ljava/lang/Integer;"), (12, u "cache"), (0, u "low")] 27

def k8m0 : Method := { name := "<init>", desc := "()V", sig := { parameters := [], returnType := none }, accessFlags := 2, code := none }
/-- java/lang/Integer$IntegerCache -/
def k8 : Class := { plain "java/lang/Integer$IntegerCache" (some 0) with
  accessFlags := 48
  interfaces := #[]
  cf := some (fileOf pool8 16 #[.nestHost 7] #[{ accessFlags := 2, nameIndex := 5, descriptorIndex := 6, attributes := #[] }] 48 2 #[] #[{ accessFlags := 24, nameIndex := 72, descriptorIndex := 48, attributes := #[] }, { accessFlags := 24, nameIndex := 47, descriptorIndex := 48, attributes := #[] }, { accessFlags := 24, nameIndex := 71, descriptorIndex := 58, attributes := #[] }, { accessFlags := 8, nameIndex := 57, descriptorIndex := 58, attributes := #[] }, { accessFlags := 4120, nameIndex := 19, descriptorIndex := 20, attributes := #[] }])
  fields := #[{ name := "low", type := .int, accessFlags := 24, slot := 0, constantValue := 0 }, { name := "high", type := .int, accessFlags := 24, slot := 1, constantValue := 0 }, { name := "cache", type := (.array (.object "java/lang/Integer")), accessFlags := 24, slot := 2, constantValue := 0 }, { name := "archivedCache", type := (.array (.object "java/lang/Integer")), accessFlags := 8, slot := 3, constantValue := 0 }, { name := "$assertionsDisabled", type := .boolean, accessFlags := 4120, slot := 4, constantValue := 0 }]
  methods := #[k8m0]
  instanceTypes := #[]
  staticTypes := #[.int, .int, (.array (.object "java/lang/Integer")), (.array (.object "java/lang/Integer")), .boolean]
  resolved := Array.replicate 100 none
  statics := some 0 }

def pool9 : Array CpInfo := pool [(1, .class_ 2), (0, u "com/example/millrace/millrace/runtime/aggregate/Accumulator"), (0, .class_ 4), (0, u "java/lang/Object")] 9

/-- com/example/millrace/millrace/runtime/aggregate/Accumulator -/
def k9 : Class := { plain "com/example/millrace/millrace/runtime/aggregate/Accumulator" (some 0) with
  accessFlags := 1537
  interfaces := #[]
  cf := some (fileOf pool9 1 #[] #[] 1537 3 #[] #[])
  fields := #[]
  methods := #[]
  instanceTypes := #[]
  staticTypes := #[]
  resolved := Array.replicate 14 none
  statics := none }

def pool10 : Array CpInfo := pool [(1, .methodref 2 3), (0, .class_ 4), (0, .nameAndType 5 6), (0, u "java/lang/Object"), (0, u "<init>"), (0, u "()V"), (0, .fieldref 8 9), (0, .class_ 10), (0, .nameAndType 11 12), (0, u "com/example/millrace/millrace/runtime/aggregate/Count"), (0, u "count"), (0, u "J"), (11, .class_ 25), (0, u "com/example/millrace/millrace/runtime/aggregate/Accumulator"), (2, u "add"), (0, u "(Ljava/lang/Object;)V"), (1, u "remove"), (4, u "equals"), (0, u "(Ljava/lang/Object;)Z")] 3

def k10c0 : Code := { maxStack := 1, maxLocals := 1, code := prog_82_method_1_code, exceptionTable := #[], attributes := #[] }
def k10m0 : Method := { name := "<init>", desc := "()V", sig := { parameters := [], returnType := none }, accessFlags := 0, code := some k10c0 }
def k10c1 : Code := { maxStack := 5, maxLocals := 2, code := prog_82_method_2_code, exceptionTable := #[], attributes := #[] }
def k10m1 : Method := { name := "add", desc := "(Ljava/lang/Object;)V", sig := { parameters := [(.object "java/lang/Object")], returnType := none }, accessFlags := 1, code := some k10c1 }
def k10c2 : Code := { maxStack := 5, maxLocals := 2, code := prog_82_method_3_code, exceptionTable := #[], attributes := #[] }
def k10m2 : Method := { name := "remove", desc := "(Ljava/lang/Object;)V", sig := { parameters := [(.object "java/lang/Object")], returnType := none }, accessFlags := 1, code := some k10c2 }
def k10c3 : Code := { maxStack := 4, maxLocals := 3, code := prog_82_method_6_code, exceptionTable := #[], attributes := #[] }
def k10m3 : Method := { name := "equals", desc := "(Ljava/lang/Object;)Z", sig := { parameters := [(.object "java/lang/Object")], returnType := some .boolean }, accessFlags := 1, code := some k10c3 }
/-- com/example/millrace/millrace/runtime/aggregate/Count -/
def k10 : Class := { plain "com/example/millrace/millrace/runtime/aggregate/Count" (some 0) with
  accessFlags := 48
  interfaces := #[9]
  cf := some (fileOf pool10 8 #[] #[{ accessFlags := 0, nameIndex := 5, descriptorIndex := 6, attributes := #[] }, { accessFlags := 1, nameIndex := 28, descriptorIndex := 29, attributes := #[] }, { accessFlags := 1, nameIndex := 31, descriptorIndex := 29, attributes := #[] }, { accessFlags := 1, nameIndex := 36, descriptorIndex := 37, attributes := #[] }] 48 2 #[24] #[{ accessFlags := 2, nameIndex := 11, descriptorIndex := 12, attributes := #[] }])
  fields := #[{ name := "count", type := .long, accessFlags := 2, slot := 0, constantValue := 0 }]
  methods := #[k10m0, k10m1, k10m2, k10m3]
  instanceTypes := #[.long]
  staticTypes := #[]
  resolved := Array.replicate 41 none
  statics := none }

def pool11 : Array CpInfo := pool [(1, .class_ 2), (0, u "java/lang/Long"), (82, u "valueOf"), (143, u "(J)Ljava/lang/Long;"), (0, .long 18446744073709551488), (1, .long 127), (1, .fieldref 235 236), (0, .class_ 237), (0, .nameAndType 238 239), (0, u "java/lang/Long$LongCache"), (0, u "cache"), (0, u "[Ljava/lang/Long;"), (31, .class_ 272), (0, u "java/lang/Number"), (2, u "value"), (0, u "J"), (84, u "TYPE"), (0, u "Ljava/lang/Class;"), (0, .class_ 364), (0, u "java/lang/Comparable"), (0, .class_ 366), (0, u "java/lang/constant/Constable"), (0, .class_ 368), (0, u "java/lang/constant/ConstantDesc"), (0, u "MIN_VALUE"), (1, u "MAX_VALUE"), (4, u "SIZE"), (0, u "I"), (1, u "BYTES"), (1, u "serialVersionUID")] 142

def k11c0 : Code := { maxStack := 4, maxLocals := 3, code := jdk_35_method_24_code, exceptionTable := #[], attributes := #[] }
def k11m0 : Method := { name := "valueOf", desc := "(J)Ljava/lang/Long;", sig := { parameters := [.long], returnType := some (.object "java/lang/Long") }, accessFlags := 9, code := some k11c0 }
/-- java/lang/Long -/
def k11 : Class := { plain "java/lang/Long" (some 3) with
  accessFlags := 49
  interfaces := #[4, 5, 6]
  cf := some (fileOf pool11 1 #[.nestMembers #[235]] #[{ accessFlags := 9, nameIndex := 85, descriptorIndex := 229, attributes := #[] }] 49 271 #[363, 365, 367] #[{ accessFlags := 25, nameIndex := 369, descriptorIndex := 276, attributes := #[] }, { accessFlags := 25, nameIndex := 371, descriptorIndex := 276, attributes := #[] }, { accessFlags := 25, nameIndex := 361, descriptorIndex := 362, attributes := #[] }, { accessFlags := 18, nameIndex := 275, descriptorIndex := 276, attributes := #[] }, { accessFlags := 25, nameIndex := 376, descriptorIndex := 377, attributes := #[] }, { accessFlags := 25, nameIndex := 379, descriptorIndex := 377, attributes := #[] }, { accessFlags := 26, nameIndex := 381, descriptorIndex := 276, attributes := #[] }])
  fields := #[{ name := "MIN_VALUE", type := .long, accessFlags := 25, slot := 0, constantValue := 0 }, { name := "MAX_VALUE", type := .long, accessFlags := 25, slot := 1, constantValue := 0 }, { name := "TYPE", type := (.object "java/lang/Class"), accessFlags := 25, slot := 2, constantValue := 0 }, { name := "value", type := .long, accessFlags := 18, slot := 0, constantValue := 0 }, { name := "SIZE", type := .int, accessFlags := 25, slot := 3, constantValue := 0 }, { name := "BYTES", type := .int, accessFlags := 25, slot := 4, constantValue := 0 }, { name := "serialVersionUID", type := .long, accessFlags := 26, slot := 5, constantValue := 0 }]
  methods := #[k11m0]
  instanceTypes := #[.long]
  staticTypes := #[.long, .long, (.object "java/lang/Class"), .int, .int, .long]
  resolved := Array.replicate 524 none
  statics := none }

def pool12 : Array CpInfo := pool [(2, .class_ 4), (1, u "java/lang/Object"), (0, u "<init>"), (0, u "()V"), (0, .class_ 8), (0, u "java/lang/Long"), (7, .class_ 18), (1, u "java/lang/Long$LongCache"), (0, u "$assertionsDisabled"), (0, u "Z"), (8, u "archivedCache"), (0, u "[Ljava/lang/Long;"), (7, u "cache")] 24

def k12m0 : Method := { name := "<init>", desc := "()V", sig := { parameters := [], returnType := none }, accessFlags := 2, code := none }
/-- java/lang/Long$LongCache -/
def k12 : Class := { plain "java/lang/Long$LongCache" (some 0) with
  accessFlags := 48
  interfaces := #[]
  cf := some (fileOf pool12 16 #[.nestHost 7] #[{ accessFlags := 2, nameIndex := 5, descriptorIndex := 6, attributes := #[] }] 48 2 #[] #[{ accessFlags := 24, nameIndex := 38, descriptorIndex := 30, attributes := #[] }, { accessFlags := 8, nameIndex := 29, descriptorIndex := 30, attributes := #[] }, { accessFlags := 4120, nameIndex := 19, descriptorIndex := 20, attributes := #[] }])
  fields := #[{ name := "cache", type := (.array (.object "java/lang/Long")), accessFlags := 24, slot := 0, constantValue := 0 }, { name := "archivedCache", type := (.array (.object "java/lang/Long")), accessFlags := 8, slot := 1, constantValue := 0 }, { name := "$assertionsDisabled", type := .boolean, accessFlags := 4120, slot := 2, constantValue := 0 }]
  methods := #[k12m0]
  instanceTypes := #[]
  staticTypes := #[(.array (.object "java/lang/Long")), (.array (.object "java/lang/Long")), .boolean]
  resolved := Array.replicate 63 none
  statics := some 1 }

def pool13 : Array CpInfo := pool [(1, u "java/lang/Cloneable"), (0, .class_ 1), (0, u "java/lang/Object"), (0, .class_ 3)] 3

/-- java/lang/Cloneable -/
def k13 : Class := { plain "java/lang/Cloneable" (some 0) with
  accessFlags := 1537
  interfaces := #[]
  cf := some (fileOf pool13 2 #[] #[] 1537 4 #[] #[])
  fields := #[]
  methods := #[]
  instanceTypes := #[]
  staticTypes := #[]
  resolved := Array.replicate 8 none
  statics := none }

/-- the primitive byte -/
def k14 : Class := { plain "byte" none with kind := .primitive 'B', accessFlags := 0x411 }
/-- [B -/
def k15 : Class := { plain "[B" (some 0) with kind := .array 14 .byte, interfaces := #[13, 2], accessFlags := 1041 }

/-- the primitive int -/
def k16 : Class := { plain "int" none with kind := .primitive 'I', accessFlags := 0x411 }
/-- [I -/
def k17 : Class := { plain "[I" (some 0) with kind := .array 16 .int, interfaces := #[13, 2], accessFlags := 1041 }

/-- [Ljava/lang/Integer; -/
def k18 : Class := { plain "[Ljava/lang/Integer;" (some 0) with kind := .array 7 (.object "java/lang/Integer"), interfaces := #[13, 2], accessFlags := 1041 }

/-- [Ljava/lang/Long; -/
def k19 : Class := { plain "[Ljava/lang/Long;" (some 0) with kind := .array 11 (.object "java/lang/Long"), interfaces := #[13, 2], accessFlags := 1041 }

def heap : Heap := #[{ cls := 8, slots := #[.int 0, .int 127, .ref 2, .null, .int 0], vm := .statics 8 },
  { cls := 12, slots := #[.ref 3, .null, .int 0], vm := .statics 12 },
  { cls := 18, slots := #[.ref 4, .ref 5, .ref 6, .ref 7, .ref 8, .ref 9, .ref 10, .ref 11, .ref 12, .ref 13, .ref 14, .ref 15, .ref 16, .ref 17, .ref 18, .ref 19, .ref 20, .ref 21, .ref 22, .ref 23, .ref 24, .ref 25, .ref 26, .ref 27, .ref 28, .ref 29, .ref 30, .ref 31, .ref 32, .ref 33, .ref 34, .ref 35, .ref 36, .ref 37, .ref 38, .ref 39, .ref 40, .ref 41, .ref 42, .ref 43, .ref 44, .ref 45, .ref 46, .ref 47, .ref 48, .ref 49, .ref 50, .ref 51, .ref 52, .ref 53, .ref 54, .ref 55, .ref 56, .ref 57, .ref 58, .ref 59, .ref 60, .ref 61, .ref 62, .ref 63, .ref 64, .ref 65, .ref 66, .ref 67, .ref 68, .ref 69, .ref 70, .ref 71, .ref 72, .ref 73, .ref 74, .ref 75, .ref 76, .ref 77, .ref 78, .ref 79, .ref 80, .ref 81, .ref 82, .ref 83, .ref 84, .ref 85, .ref 86, .ref 87, .ref 88, .ref 89, .ref 90, .ref 91, .ref 92, .ref 93, .ref 94, .ref 95, .ref 96, .ref 97, .ref 98, .ref 99, .ref 100, .ref 101, .ref 102, .ref 103, .ref 104, .ref 105, .ref 106, .ref 107, .ref 108, .ref 109, .ref 110, .ref 111, .ref 112, .ref 113, .ref 114, .ref 115, .ref 116, .ref 117, .ref 118, .ref 119, .ref 120, .ref 121, .ref 122, .ref 123, .ref 124, .ref 125, .ref 126, .ref 127, .ref 128, .ref 129, .ref 130, .ref 131, .ref 132, .ref 133, .ref 134, .ref 135, .ref 136, .ref 137, .ref 138, .ref 139, .ref 140, .ref 141, .ref 142, .ref 143, .ref 144, .ref 145, .ref 146, .ref 147, .ref 148, .ref 149, .ref 150, .ref 151, .ref 152, .ref 153, .ref 154, .ref 155, .ref 156, .ref 157, .ref 158, .ref 159, .ref 160, .ref 161, .ref 162, .ref 163, .ref 164, .ref 165, .ref 166, .ref 167, .ref 168, .ref 169, .ref 170, .ref 171, .ref 172, .ref 173, .ref 174, .ref 175, .ref 176, .ref 177, .ref 178, .ref 179, .ref 180, .ref 181, .ref 182, .ref 183, .ref 184, .ref 185, .ref 186, .ref 187, .ref 188, .ref 189, .ref 190, .ref 191, .ref 192, .ref 193, .ref 194, .ref 195, .ref 196, .ref 197, .ref 198, .ref 199, .ref 200, .ref 201, .ref 202, .ref 203, .ref 204, .ref 205, .ref 206, .ref 207, .ref 208, .ref 209, .ref 210, .ref 211, .ref 212, .ref 213, .ref 214, .ref 215, .ref 216, .ref 217, .ref 218, .ref 219, .ref 220, .ref 221, .ref 222, .ref 223, .ref 224, .ref 225, .ref 226, .ref 227, .ref 228, .ref 229, .ref 230, .ref 231, .ref 232, .ref 233, .ref 234, .ref 235, .ref 236, .ref 237, .ref 238, .ref 239, .ref 240, .ref 241, .ref 242, .ref 243, .ref 244, .ref 245, .ref 246, .ref 247, .ref 248, .ref 249, .ref 250, .ref 251, .ref 252, .ref 253, .ref 254, .ref 255, .ref 256, .ref 257, .ref 258, .ref 259], vm := .none },
  { cls := 19, slots := #[.ref 260, .ref 261, .ref 262, .ref 263, .ref 264, .ref 265, .ref 266, .ref 267, .ref 268, .ref 269, .ref 270, .ref 271, .ref 272, .ref 273, .ref 274, .ref 275, .ref 276, .ref 277, .ref 278, .ref 279, .ref 280, .ref 281, .ref 282, .ref 283, .ref 284, .ref 285, .ref 286, .ref 287, .ref 288, .ref 289, .ref 290, .ref 291, .ref 292, .ref 293, .ref 294, .ref 295, .ref 296, .ref 297, .ref 298, .ref 299, .ref 300, .ref 301, .ref 302, .ref 303, .ref 304, .ref 305, .ref 306, .ref 307, .ref 308, .ref 309, .ref 310, .ref 311, .ref 312, .ref 313, .ref 314, .ref 315, .ref 316, .ref 317, .ref 318, .ref 319, .ref 320, .ref 321, .ref 322, .ref 323, .ref 324, .ref 325, .ref 326, .ref 327, .ref 328, .ref 329, .ref 330, .ref 331, .ref 332, .ref 333, .ref 334, .ref 335, .ref 336, .ref 337, .ref 338, .ref 339, .ref 340, .ref 341, .ref 342, .ref 343, .ref 344, .ref 345, .ref 346, .ref 347, .ref 348, .ref 349, .ref 350, .ref 351, .ref 352, .ref 353, .ref 354, .ref 355, .ref 356, .ref 357, .ref 358, .ref 359, .ref 360, .ref 361, .ref 362, .ref 363, .ref 364, .ref 365, .ref 366, .ref 367, .ref 368, .ref 369, .ref 370, .ref 371, .ref 372, .ref 373, .ref 374, .ref 375, .ref 376, .ref 377, .ref 378, .ref 379, .ref 380, .ref 381, .ref 382, .ref 383, .ref 384, .ref 385, .ref 386, .ref 387, .ref 388, .ref 389, .ref 390, .ref 391, .ref 392, .ref 393, .ref 394, .ref 395, .ref 396, .ref 397, .ref 398, .ref 399, .ref 400, .ref 401, .ref 402, .ref 403, .ref 404, .ref 405, .ref 406, .ref 407, .ref 408, .ref 409, .ref 410, .ref 411, .ref 412, .ref 413, .ref 414, .ref 415, .ref 416, .ref 417, .ref 418, .ref 419, .ref 420, .ref 421, .ref 422, .ref 423, .ref 424, .ref 425, .ref 426, .ref 427, .ref 428, .ref 429, .ref 430, .ref 431, .ref 432, .ref 433, .ref 434, .ref 435, .ref 436, .ref 437, .ref 438, .ref 439, .ref 440, .ref 441, .ref 442, .ref 443, .ref 444, .ref 445, .ref 446, .ref 447, .ref 448, .ref 449, .ref 450, .ref 451, .ref 452, .ref 453, .ref 454, .ref 455, .ref 456, .ref 457, .ref 458, .ref 459, .ref 460, .ref 461, .ref 462, .ref 463, .ref 464, .ref 465, .ref 466, .ref 467, .ref 468, .ref 469, .ref 470, .ref 471, .ref 472, .ref 473, .ref 474, .ref 475, .ref 476, .ref 477, .ref 478, .ref 479, .ref 480, .ref 481, .ref 482, .ref 483, .ref 484, .ref 485, .ref 486, .ref 487, .ref 488, .ref 489, .ref 490, .ref 491, .ref 492, .ref 493, .ref 494, .ref 495, .ref 496, .ref 497, .ref 498, .ref 499, .ref 500, .ref 501, .ref 502, .ref 503, .ref 504, .ref 505, .ref 506, .ref 507, .ref 508, .ref 509, .ref 510, .ref 511, .ref 512, .ref 513, .ref 514, .ref 515], vm := .none },
  { cls := 7, slots := #[.int (-128)], vm := .none },
  { cls := 7, slots := #[.int (-127)], vm := .none },
  { cls := 7, slots := #[.int (-126)], vm := .none },
  { cls := 7, slots := #[.int (-125)], vm := .none },
  { cls := 7, slots := #[.int (-124)], vm := .none },
  { cls := 7, slots := #[.int (-123)], vm := .none },
  { cls := 7, slots := #[.int (-122)], vm := .none },
  { cls := 7, slots := #[.int (-121)], vm := .none },
  { cls := 7, slots := #[.int (-120)], vm := .none },
  { cls := 7, slots := #[.int (-119)], vm := .none },
  { cls := 7, slots := #[.int (-118)], vm := .none },
  { cls := 7, slots := #[.int (-117)], vm := .none },
  { cls := 7, slots := #[.int (-116)], vm := .none },
  { cls := 7, slots := #[.int (-115)], vm := .none },
  { cls := 7, slots := #[.int (-114)], vm := .none },
  { cls := 7, slots := #[.int (-113)], vm := .none },
  { cls := 7, slots := #[.int (-112)], vm := .none },
  { cls := 7, slots := #[.int (-111)], vm := .none },
  { cls := 7, slots := #[.int (-110)], vm := .none },
  { cls := 7, slots := #[.int (-109)], vm := .none },
  { cls := 7, slots := #[.int (-108)], vm := .none },
  { cls := 7, slots := #[.int (-107)], vm := .none },
  { cls := 7, slots := #[.int (-106)], vm := .none },
  { cls := 7, slots := #[.int (-105)], vm := .none },
  { cls := 7, slots := #[.int (-104)], vm := .none },
  { cls := 7, slots := #[.int (-103)], vm := .none },
  { cls := 7, slots := #[.int (-102)], vm := .none },
  { cls := 7, slots := #[.int (-101)], vm := .none },
  { cls := 7, slots := #[.int (-100)], vm := .none },
  { cls := 7, slots := #[.int (-99)], vm := .none },
  { cls := 7, slots := #[.int (-98)], vm := .none },
  { cls := 7, slots := #[.int (-97)], vm := .none },
  { cls := 7, slots := #[.int (-96)], vm := .none },
  { cls := 7, slots := #[.int (-95)], vm := .none },
  { cls := 7, slots := #[.int (-94)], vm := .none },
  { cls := 7, slots := #[.int (-93)], vm := .none },
  { cls := 7, slots := #[.int (-92)], vm := .none },
  { cls := 7, slots := #[.int (-91)], vm := .none },
  { cls := 7, slots := #[.int (-90)], vm := .none },
  { cls := 7, slots := #[.int (-89)], vm := .none },
  { cls := 7, slots := #[.int (-88)], vm := .none },
  { cls := 7, slots := #[.int (-87)], vm := .none },
  { cls := 7, slots := #[.int (-86)], vm := .none },
  { cls := 7, slots := #[.int (-85)], vm := .none },
  { cls := 7, slots := #[.int (-84)], vm := .none },
  { cls := 7, slots := #[.int (-83)], vm := .none },
  { cls := 7, slots := #[.int (-82)], vm := .none },
  { cls := 7, slots := #[.int (-81)], vm := .none },
  { cls := 7, slots := #[.int (-80)], vm := .none },
  { cls := 7, slots := #[.int (-79)], vm := .none },
  { cls := 7, slots := #[.int (-78)], vm := .none },
  { cls := 7, slots := #[.int (-77)], vm := .none },
  { cls := 7, slots := #[.int (-76)], vm := .none },
  { cls := 7, slots := #[.int (-75)], vm := .none },
  { cls := 7, slots := #[.int (-74)], vm := .none },
  { cls := 7, slots := #[.int (-73)], vm := .none },
  { cls := 7, slots := #[.int (-72)], vm := .none },
  { cls := 7, slots := #[.int (-71)], vm := .none },
  { cls := 7, slots := #[.int (-70)], vm := .none },
  { cls := 7, slots := #[.int (-69)], vm := .none },
  { cls := 7, slots := #[.int (-68)], vm := .none },
  { cls := 7, slots := #[.int (-67)], vm := .none },
  { cls := 7, slots := #[.int (-66)], vm := .none },
  { cls := 7, slots := #[.int (-65)], vm := .none },
  { cls := 7, slots := #[.int (-64)], vm := .none },
  { cls := 7, slots := #[.int (-63)], vm := .none },
  { cls := 7, slots := #[.int (-62)], vm := .none },
  { cls := 7, slots := #[.int (-61)], vm := .none },
  { cls := 7, slots := #[.int (-60)], vm := .none },
  { cls := 7, slots := #[.int (-59)], vm := .none },
  { cls := 7, slots := #[.int (-58)], vm := .none },
  { cls := 7, slots := #[.int (-57)], vm := .none },
  { cls := 7, slots := #[.int (-56)], vm := .none },
  { cls := 7, slots := #[.int (-55)], vm := .none },
  { cls := 7, slots := #[.int (-54)], vm := .none },
  { cls := 7, slots := #[.int (-53)], vm := .none },
  { cls := 7, slots := #[.int (-52)], vm := .none },
  { cls := 7, slots := #[.int (-51)], vm := .none },
  { cls := 7, slots := #[.int (-50)], vm := .none },
  { cls := 7, slots := #[.int (-49)], vm := .none },
  { cls := 7, slots := #[.int (-48)], vm := .none },
  { cls := 7, slots := #[.int (-47)], vm := .none },
  { cls := 7, slots := #[.int (-46)], vm := .none },
  { cls := 7, slots := #[.int (-45)], vm := .none },
  { cls := 7, slots := #[.int (-44)], vm := .none },
  { cls := 7, slots := #[.int (-43)], vm := .none },
  { cls := 7, slots := #[.int (-42)], vm := .none },
  { cls := 7, slots := #[.int (-41)], vm := .none },
  { cls := 7, slots := #[.int (-40)], vm := .none },
  { cls := 7, slots := #[.int (-39)], vm := .none },
  { cls := 7, slots := #[.int (-38)], vm := .none },
  { cls := 7, slots := #[.int (-37)], vm := .none },
  { cls := 7, slots := #[.int (-36)], vm := .none },
  { cls := 7, slots := #[.int (-35)], vm := .none },
  { cls := 7, slots := #[.int (-34)], vm := .none },
  { cls := 7, slots := #[.int (-33)], vm := .none },
  { cls := 7, slots := #[.int (-32)], vm := .none },
  { cls := 7, slots := #[.int (-31)], vm := .none },
  { cls := 7, slots := #[.int (-30)], vm := .none },
  { cls := 7, slots := #[.int (-29)], vm := .none },
  { cls := 7, slots := #[.int (-28)], vm := .none },
  { cls := 7, slots := #[.int (-27)], vm := .none },
  { cls := 7, slots := #[.int (-26)], vm := .none },
  { cls := 7, slots := #[.int (-25)], vm := .none },
  { cls := 7, slots := #[.int (-24)], vm := .none },
  { cls := 7, slots := #[.int (-23)], vm := .none },
  { cls := 7, slots := #[.int (-22)], vm := .none },
  { cls := 7, slots := #[.int (-21)], vm := .none },
  { cls := 7, slots := #[.int (-20)], vm := .none },
  { cls := 7, slots := #[.int (-19)], vm := .none },
  { cls := 7, slots := #[.int (-18)], vm := .none },
  { cls := 7, slots := #[.int (-17)], vm := .none },
  { cls := 7, slots := #[.int (-16)], vm := .none },
  { cls := 7, slots := #[.int (-15)], vm := .none },
  { cls := 7, slots := #[.int (-14)], vm := .none },
  { cls := 7, slots := #[.int (-13)], vm := .none },
  { cls := 7, slots := #[.int (-12)], vm := .none },
  { cls := 7, slots := #[.int (-11)], vm := .none },
  { cls := 7, slots := #[.int (-10)], vm := .none },
  { cls := 7, slots := #[.int (-9)], vm := .none },
  { cls := 7, slots := #[.int (-8)], vm := .none },
  { cls := 7, slots := #[.int (-7)], vm := .none },
  { cls := 7, slots := #[.int (-6)], vm := .none },
  { cls := 7, slots := #[.int (-5)], vm := .none },
  { cls := 7, slots := #[.int (-4)], vm := .none },
  { cls := 7, slots := #[.int (-3)], vm := .none },
  { cls := 7, slots := #[.int (-2)], vm := .none },
  { cls := 7, slots := #[.int (-1)], vm := .none },
  { cls := 7, slots := #[.int (0)], vm := .none },
  { cls := 7, slots := #[.int (1)], vm := .none },
  { cls := 7, slots := #[.int (2)], vm := .none },
  { cls := 7, slots := #[.int (3)], vm := .none },
  { cls := 7, slots := #[.int (4)], vm := .none },
  { cls := 7, slots := #[.int (5)], vm := .none },
  { cls := 7, slots := #[.int (6)], vm := .none },
  { cls := 7, slots := #[.int (7)], vm := .none },
  { cls := 7, slots := #[.int (8)], vm := .none },
  { cls := 7, slots := #[.int (9)], vm := .none },
  { cls := 7, slots := #[.int (10)], vm := .none },
  { cls := 7, slots := #[.int (11)], vm := .none },
  { cls := 7, slots := #[.int (12)], vm := .none },
  { cls := 7, slots := #[.int (13)], vm := .none },
  { cls := 7, slots := #[.int (14)], vm := .none },
  { cls := 7, slots := #[.int (15)], vm := .none },
  { cls := 7, slots := #[.int (16)], vm := .none },
  { cls := 7, slots := #[.int (17)], vm := .none },
  { cls := 7, slots := #[.int (18)], vm := .none },
  { cls := 7, slots := #[.int (19)], vm := .none },
  { cls := 7, slots := #[.int (20)], vm := .none },
  { cls := 7, slots := #[.int (21)], vm := .none },
  { cls := 7, slots := #[.int (22)], vm := .none },
  { cls := 7, slots := #[.int (23)], vm := .none },
  { cls := 7, slots := #[.int (24)], vm := .none },
  { cls := 7, slots := #[.int (25)], vm := .none },
  { cls := 7, slots := #[.int (26)], vm := .none },
  { cls := 7, slots := #[.int (27)], vm := .none },
  { cls := 7, slots := #[.int (28)], vm := .none },
  { cls := 7, slots := #[.int (29)], vm := .none },
  { cls := 7, slots := #[.int (30)], vm := .none },
  { cls := 7, slots := #[.int (31)], vm := .none },
  { cls := 7, slots := #[.int (32)], vm := .none },
  { cls := 7, slots := #[.int (33)], vm := .none },
  { cls := 7, slots := #[.int (34)], vm := .none },
  { cls := 7, slots := #[.int (35)], vm := .none },
  { cls := 7, slots := #[.int (36)], vm := .none },
  { cls := 7, slots := #[.int (37)], vm := .none },
  { cls := 7, slots := #[.int (38)], vm := .none },
  { cls := 7, slots := #[.int (39)], vm := .none },
  { cls := 7, slots := #[.int (40)], vm := .none },
  { cls := 7, slots := #[.int (41)], vm := .none },
  { cls := 7, slots := #[.int (42)], vm := .none },
  { cls := 7, slots := #[.int (43)], vm := .none },
  { cls := 7, slots := #[.int (44)], vm := .none },
  { cls := 7, slots := #[.int (45)], vm := .none },
  { cls := 7, slots := #[.int (46)], vm := .none },
  { cls := 7, slots := #[.int (47)], vm := .none },
  { cls := 7, slots := #[.int (48)], vm := .none },
  { cls := 7, slots := #[.int (49)], vm := .none },
  { cls := 7, slots := #[.int (50)], vm := .none },
  { cls := 7, slots := #[.int (51)], vm := .none },
  { cls := 7, slots := #[.int (52)], vm := .none },
  { cls := 7, slots := #[.int (53)], vm := .none },
  { cls := 7, slots := #[.int (54)], vm := .none },
  { cls := 7, slots := #[.int (55)], vm := .none },
  { cls := 7, slots := #[.int (56)], vm := .none },
  { cls := 7, slots := #[.int (57)], vm := .none },
  { cls := 7, slots := #[.int (58)], vm := .none },
  { cls := 7, slots := #[.int (59)], vm := .none },
  { cls := 7, slots := #[.int (60)], vm := .none },
  { cls := 7, slots := #[.int (61)], vm := .none },
  { cls := 7, slots := #[.int (62)], vm := .none },
  { cls := 7, slots := #[.int (63)], vm := .none },
  { cls := 7, slots := #[.int (64)], vm := .none },
  { cls := 7, slots := #[.int (65)], vm := .none },
  { cls := 7, slots := #[.int (66)], vm := .none },
  { cls := 7, slots := #[.int (67)], vm := .none },
  { cls := 7, slots := #[.int (68)], vm := .none },
  { cls := 7, slots := #[.int (69)], vm := .none },
  { cls := 7, slots := #[.int (70)], vm := .none },
  { cls := 7, slots := #[.int (71)], vm := .none },
  { cls := 7, slots := #[.int (72)], vm := .none },
  { cls := 7, slots := #[.int (73)], vm := .none },
  { cls := 7, slots := #[.int (74)], vm := .none },
  { cls := 7, slots := #[.int (75)], vm := .none },
  { cls := 7, slots := #[.int (76)], vm := .none },
  { cls := 7, slots := #[.int (77)], vm := .none },
  { cls := 7, slots := #[.int (78)], vm := .none },
  { cls := 7, slots := #[.int (79)], vm := .none },
  { cls := 7, slots := #[.int (80)], vm := .none },
  { cls := 7, slots := #[.int (81)], vm := .none },
  { cls := 7, slots := #[.int (82)], vm := .none },
  { cls := 7, slots := #[.int (83)], vm := .none },
  { cls := 7, slots := #[.int (84)], vm := .none },
  { cls := 7, slots := #[.int (85)], vm := .none },
  { cls := 7, slots := #[.int (86)], vm := .none },
  { cls := 7, slots := #[.int (87)], vm := .none },
  { cls := 7, slots := #[.int (88)], vm := .none },
  { cls := 7, slots := #[.int (89)], vm := .none },
  { cls := 7, slots := #[.int (90)], vm := .none },
  { cls := 7, slots := #[.int (91)], vm := .none },
  { cls := 7, slots := #[.int (92)], vm := .none },
  { cls := 7, slots := #[.int (93)], vm := .none },
  { cls := 7, slots := #[.int (94)], vm := .none },
  { cls := 7, slots := #[.int (95)], vm := .none },
  { cls := 7, slots := #[.int (96)], vm := .none },
  { cls := 7, slots := #[.int (97)], vm := .none },
  { cls := 7, slots := #[.int (98)], vm := .none },
  { cls := 7, slots := #[.int (99)], vm := .none },
  { cls := 7, slots := #[.int (100)], vm := .none },
  { cls := 7, slots := #[.int (101)], vm := .none },
  { cls := 7, slots := #[.int (102)], vm := .none },
  { cls := 7, slots := #[.int (103)], vm := .none },
  { cls := 7, slots := #[.int (104)], vm := .none },
  { cls := 7, slots := #[.int (105)], vm := .none },
  { cls := 7, slots := #[.int (106)], vm := .none },
  { cls := 7, slots := #[.int (107)], vm := .none },
  { cls := 7, slots := #[.int (108)], vm := .none },
  { cls := 7, slots := #[.int (109)], vm := .none },
  { cls := 7, slots := #[.int (110)], vm := .none },
  { cls := 7, slots := #[.int (111)], vm := .none },
  { cls := 7, slots := #[.int (112)], vm := .none },
  { cls := 7, slots := #[.int (113)], vm := .none },
  { cls := 7, slots := #[.int (114)], vm := .none },
  { cls := 7, slots := #[.int (115)], vm := .none },
  { cls := 7, slots := #[.int (116)], vm := .none },
  { cls := 7, slots := #[.int (117)], vm := .none },
  { cls := 7, slots := #[.int (118)], vm := .none },
  { cls := 7, slots := #[.int (119)], vm := .none },
  { cls := 7, slots := #[.int (120)], vm := .none },
  { cls := 7, slots := #[.int (121)], vm := .none },
  { cls := 7, slots := #[.int (122)], vm := .none },
  { cls := 7, slots := #[.int (123)], vm := .none },
  { cls := 7, slots := #[.int (124)], vm := .none },
  { cls := 7, slots := #[.int (125)], vm := .none },
  { cls := 7, slots := #[.int (126)], vm := .none },
  { cls := 7, slots := #[.int (127)], vm := .none },
  { cls := 11, slots := #[.long (-128)], vm := .none },
  { cls := 11, slots := #[.long (-127)], vm := .none },
  { cls := 11, slots := #[.long (-126)], vm := .none },
  { cls := 11, slots := #[.long (-125)], vm := .none },
  { cls := 11, slots := #[.long (-124)], vm := .none },
  { cls := 11, slots := #[.long (-123)], vm := .none },
  { cls := 11, slots := #[.long (-122)], vm := .none },
  { cls := 11, slots := #[.long (-121)], vm := .none },
  { cls := 11, slots := #[.long (-120)], vm := .none },
  { cls := 11, slots := #[.long (-119)], vm := .none },
  { cls := 11, slots := #[.long (-118)], vm := .none },
  { cls := 11, slots := #[.long (-117)], vm := .none },
  { cls := 11, slots := #[.long (-116)], vm := .none },
  { cls := 11, slots := #[.long (-115)], vm := .none },
  { cls := 11, slots := #[.long (-114)], vm := .none },
  { cls := 11, slots := #[.long (-113)], vm := .none },
  { cls := 11, slots := #[.long (-112)], vm := .none },
  { cls := 11, slots := #[.long (-111)], vm := .none },
  { cls := 11, slots := #[.long (-110)], vm := .none },
  { cls := 11, slots := #[.long (-109)], vm := .none },
  { cls := 11, slots := #[.long (-108)], vm := .none },
  { cls := 11, slots := #[.long (-107)], vm := .none },
  { cls := 11, slots := #[.long (-106)], vm := .none },
  { cls := 11, slots := #[.long (-105)], vm := .none },
  { cls := 11, slots := #[.long (-104)], vm := .none },
  { cls := 11, slots := #[.long (-103)], vm := .none },
  { cls := 11, slots := #[.long (-102)], vm := .none },
  { cls := 11, slots := #[.long (-101)], vm := .none },
  { cls := 11, slots := #[.long (-100)], vm := .none },
  { cls := 11, slots := #[.long (-99)], vm := .none },
  { cls := 11, slots := #[.long (-98)], vm := .none },
  { cls := 11, slots := #[.long (-97)], vm := .none },
  { cls := 11, slots := #[.long (-96)], vm := .none },
  { cls := 11, slots := #[.long (-95)], vm := .none },
  { cls := 11, slots := #[.long (-94)], vm := .none },
  { cls := 11, slots := #[.long (-93)], vm := .none },
  { cls := 11, slots := #[.long (-92)], vm := .none },
  { cls := 11, slots := #[.long (-91)], vm := .none },
  { cls := 11, slots := #[.long (-90)], vm := .none },
  { cls := 11, slots := #[.long (-89)], vm := .none },
  { cls := 11, slots := #[.long (-88)], vm := .none },
  { cls := 11, slots := #[.long (-87)], vm := .none },
  { cls := 11, slots := #[.long (-86)], vm := .none },
  { cls := 11, slots := #[.long (-85)], vm := .none },
  { cls := 11, slots := #[.long (-84)], vm := .none },
  { cls := 11, slots := #[.long (-83)], vm := .none },
  { cls := 11, slots := #[.long (-82)], vm := .none },
  { cls := 11, slots := #[.long (-81)], vm := .none },
  { cls := 11, slots := #[.long (-80)], vm := .none },
  { cls := 11, slots := #[.long (-79)], vm := .none },
  { cls := 11, slots := #[.long (-78)], vm := .none },
  { cls := 11, slots := #[.long (-77)], vm := .none },
  { cls := 11, slots := #[.long (-76)], vm := .none },
  { cls := 11, slots := #[.long (-75)], vm := .none },
  { cls := 11, slots := #[.long (-74)], vm := .none },
  { cls := 11, slots := #[.long (-73)], vm := .none },
  { cls := 11, slots := #[.long (-72)], vm := .none },
  { cls := 11, slots := #[.long (-71)], vm := .none },
  { cls := 11, slots := #[.long (-70)], vm := .none },
  { cls := 11, slots := #[.long (-69)], vm := .none },
  { cls := 11, slots := #[.long (-68)], vm := .none },
  { cls := 11, slots := #[.long (-67)], vm := .none },
  { cls := 11, slots := #[.long (-66)], vm := .none },
  { cls := 11, slots := #[.long (-65)], vm := .none },
  { cls := 11, slots := #[.long (-64)], vm := .none },
  { cls := 11, slots := #[.long (-63)], vm := .none },
  { cls := 11, slots := #[.long (-62)], vm := .none },
  { cls := 11, slots := #[.long (-61)], vm := .none },
  { cls := 11, slots := #[.long (-60)], vm := .none },
  { cls := 11, slots := #[.long (-59)], vm := .none },
  { cls := 11, slots := #[.long (-58)], vm := .none },
  { cls := 11, slots := #[.long (-57)], vm := .none },
  { cls := 11, slots := #[.long (-56)], vm := .none },
  { cls := 11, slots := #[.long (-55)], vm := .none },
  { cls := 11, slots := #[.long (-54)], vm := .none },
  { cls := 11, slots := #[.long (-53)], vm := .none },
  { cls := 11, slots := #[.long (-52)], vm := .none },
  { cls := 11, slots := #[.long (-51)], vm := .none },
  { cls := 11, slots := #[.long (-50)], vm := .none },
  { cls := 11, slots := #[.long (-49)], vm := .none },
  { cls := 11, slots := #[.long (-48)], vm := .none },
  { cls := 11, slots := #[.long (-47)], vm := .none },
  { cls := 11, slots := #[.long (-46)], vm := .none },
  { cls := 11, slots := #[.long (-45)], vm := .none },
  { cls := 11, slots := #[.long (-44)], vm := .none },
  { cls := 11, slots := #[.long (-43)], vm := .none },
  { cls := 11, slots := #[.long (-42)], vm := .none },
  { cls := 11, slots := #[.long (-41)], vm := .none },
  { cls := 11, slots := #[.long (-40)], vm := .none },
  { cls := 11, slots := #[.long (-39)], vm := .none },
  { cls := 11, slots := #[.long (-38)], vm := .none },
  { cls := 11, slots := #[.long (-37)], vm := .none },
  { cls := 11, slots := #[.long (-36)], vm := .none },
  { cls := 11, slots := #[.long (-35)], vm := .none },
  { cls := 11, slots := #[.long (-34)], vm := .none },
  { cls := 11, slots := #[.long (-33)], vm := .none },
  { cls := 11, slots := #[.long (-32)], vm := .none },
  { cls := 11, slots := #[.long (-31)], vm := .none },
  { cls := 11, slots := #[.long (-30)], vm := .none },
  { cls := 11, slots := #[.long (-29)], vm := .none },
  { cls := 11, slots := #[.long (-28)], vm := .none },
  { cls := 11, slots := #[.long (-27)], vm := .none },
  { cls := 11, slots := #[.long (-26)], vm := .none },
  { cls := 11, slots := #[.long (-25)], vm := .none },
  { cls := 11, slots := #[.long (-24)], vm := .none },
  { cls := 11, slots := #[.long (-23)], vm := .none },
  { cls := 11, slots := #[.long (-22)], vm := .none },
  { cls := 11, slots := #[.long (-21)], vm := .none },
  { cls := 11, slots := #[.long (-20)], vm := .none },
  { cls := 11, slots := #[.long (-19)], vm := .none },
  { cls := 11, slots := #[.long (-18)], vm := .none },
  { cls := 11, slots := #[.long (-17)], vm := .none },
  { cls := 11, slots := #[.long (-16)], vm := .none },
  { cls := 11, slots := #[.long (-15)], vm := .none },
  { cls := 11, slots := #[.long (-14)], vm := .none },
  { cls := 11, slots := #[.long (-13)], vm := .none },
  { cls := 11, slots := #[.long (-12)], vm := .none },
  { cls := 11, slots := #[.long (-11)], vm := .none },
  { cls := 11, slots := #[.long (-10)], vm := .none },
  { cls := 11, slots := #[.long (-9)], vm := .none },
  { cls := 11, slots := #[.long (-8)], vm := .none },
  { cls := 11, slots := #[.long (-7)], vm := .none },
  { cls := 11, slots := #[.long (-6)], vm := .none },
  { cls := 11, slots := #[.long (-5)], vm := .none },
  { cls := 11, slots := #[.long (-4)], vm := .none },
  { cls := 11, slots := #[.long (-3)], vm := .none },
  { cls := 11, slots := #[.long (-2)], vm := .none },
  { cls := 11, slots := #[.long (-1)], vm := .none },
  { cls := 11, slots := #[.long (0)], vm := .none },
  { cls := 11, slots := #[.long (1)], vm := .none },
  { cls := 11, slots := #[.long (2)], vm := .none },
  { cls := 11, slots := #[.long (3)], vm := .none },
  { cls := 11, slots := #[.long (4)], vm := .none },
  { cls := 11, slots := #[.long (5)], vm := .none },
  { cls := 11, slots := #[.long (6)], vm := .none },
  { cls := 11, slots := #[.long (7)], vm := .none },
  { cls := 11, slots := #[.long (8)], vm := .none },
  { cls := 11, slots := #[.long (9)], vm := .none },
  { cls := 11, slots := #[.long (10)], vm := .none },
  { cls := 11, slots := #[.long (11)], vm := .none },
  { cls := 11, slots := #[.long (12)], vm := .none },
  { cls := 11, slots := #[.long (13)], vm := .none },
  { cls := 11, slots := #[.long (14)], vm := .none },
  { cls := 11, slots := #[.long (15)], vm := .none },
  { cls := 11, slots := #[.long (16)], vm := .none },
  { cls := 11, slots := #[.long (17)], vm := .none },
  { cls := 11, slots := #[.long (18)], vm := .none },
  { cls := 11, slots := #[.long (19)], vm := .none },
  { cls := 11, slots := #[.long (20)], vm := .none },
  { cls := 11, slots := #[.long (21)], vm := .none },
  { cls := 11, slots := #[.long (22)], vm := .none },
  { cls := 11, slots := #[.long (23)], vm := .none },
  { cls := 11, slots := #[.long (24)], vm := .none },
  { cls := 11, slots := #[.long (25)], vm := .none },
  { cls := 11, slots := #[.long (26)], vm := .none },
  { cls := 11, slots := #[.long (27)], vm := .none },
  { cls := 11, slots := #[.long (28)], vm := .none },
  { cls := 11, slots := #[.long (29)], vm := .none },
  { cls := 11, slots := #[.long (30)], vm := .none },
  { cls := 11, slots := #[.long (31)], vm := .none },
  { cls := 11, slots := #[.long (32)], vm := .none },
  { cls := 11, slots := #[.long (33)], vm := .none },
  { cls := 11, slots := #[.long (34)], vm := .none },
  { cls := 11, slots := #[.long (35)], vm := .none },
  { cls := 11, slots := #[.long (36)], vm := .none },
  { cls := 11, slots := #[.long (37)], vm := .none },
  { cls := 11, slots := #[.long (38)], vm := .none },
  { cls := 11, slots := #[.long (39)], vm := .none },
  { cls := 11, slots := #[.long (40)], vm := .none },
  { cls := 11, slots := #[.long (41)], vm := .none },
  { cls := 11, slots := #[.long (42)], vm := .none },
  { cls := 11, slots := #[.long (43)], vm := .none },
  { cls := 11, slots := #[.long (44)], vm := .none },
  { cls := 11, slots := #[.long (45)], vm := .none },
  { cls := 11, slots := #[.long (46)], vm := .none },
  { cls := 11, slots := #[.long (47)], vm := .none },
  { cls := 11, slots := #[.long (48)], vm := .none },
  { cls := 11, slots := #[.long (49)], vm := .none },
  { cls := 11, slots := #[.long (50)], vm := .none },
  { cls := 11, slots := #[.long (51)], vm := .none },
  { cls := 11, slots := #[.long (52)], vm := .none },
  { cls := 11, slots := #[.long (53)], vm := .none },
  { cls := 11, slots := #[.long (54)], vm := .none },
  { cls := 11, slots := #[.long (55)], vm := .none },
  { cls := 11, slots := #[.long (56)], vm := .none },
  { cls := 11, slots := #[.long (57)], vm := .none },
  { cls := 11, slots := #[.long (58)], vm := .none },
  { cls := 11, slots := #[.long (59)], vm := .none },
  { cls := 11, slots := #[.long (60)], vm := .none },
  { cls := 11, slots := #[.long (61)], vm := .none },
  { cls := 11, slots := #[.long (62)], vm := .none },
  { cls := 11, slots := #[.long (63)], vm := .none },
  { cls := 11, slots := #[.long (64)], vm := .none },
  { cls := 11, slots := #[.long (65)], vm := .none },
  { cls := 11, slots := #[.long (66)], vm := .none },
  { cls := 11, slots := #[.long (67)], vm := .none },
  { cls := 11, slots := #[.long (68)], vm := .none },
  { cls := 11, slots := #[.long (69)], vm := .none },
  { cls := 11, slots := #[.long (70)], vm := .none },
  { cls := 11, slots := #[.long (71)], vm := .none },
  { cls := 11, slots := #[.long (72)], vm := .none },
  { cls := 11, slots := #[.long (73)], vm := .none },
  { cls := 11, slots := #[.long (74)], vm := .none },
  { cls := 11, slots := #[.long (75)], vm := .none },
  { cls := 11, slots := #[.long (76)], vm := .none },
  { cls := 11, slots := #[.long (77)], vm := .none },
  { cls := 11, slots := #[.long (78)], vm := .none },
  { cls := 11, slots := #[.long (79)], vm := .none },
  { cls := 11, slots := #[.long (80)], vm := .none },
  { cls := 11, slots := #[.long (81)], vm := .none },
  { cls := 11, slots := #[.long (82)], vm := .none },
  { cls := 11, slots := #[.long (83)], vm := .none },
  { cls := 11, slots := #[.long (84)], vm := .none },
  { cls := 11, slots := #[.long (85)], vm := .none },
  { cls := 11, slots := #[.long (86)], vm := .none },
  { cls := 11, slots := #[.long (87)], vm := .none },
  { cls := 11, slots := #[.long (88)], vm := .none },
  { cls := 11, slots := #[.long (89)], vm := .none },
  { cls := 11, slots := #[.long (90)], vm := .none },
  { cls := 11, slots := #[.long (91)], vm := .none },
  { cls := 11, slots := #[.long (92)], vm := .none },
  { cls := 11, slots := #[.long (93)], vm := .none },
  { cls := 11, slots := #[.long (94)], vm := .none },
  { cls := 11, slots := #[.long (95)], vm := .none },
  { cls := 11, slots := #[.long (96)], vm := .none },
  { cls := 11, slots := #[.long (97)], vm := .none },
  { cls := 11, slots := #[.long (98)], vm := .none },
  { cls := 11, slots := #[.long (99)], vm := .none },
  { cls := 11, slots := #[.long (100)], vm := .none },
  { cls := 11, slots := #[.long (101)], vm := .none },
  { cls := 11, slots := #[.long (102)], vm := .none },
  { cls := 11, slots := #[.long (103)], vm := .none },
  { cls := 11, slots := #[.long (104)], vm := .none },
  { cls := 11, slots := #[.long (105)], vm := .none },
  { cls := 11, slots := #[.long (106)], vm := .none },
  { cls := 11, slots := #[.long (107)], vm := .none },
  { cls := 11, slots := #[.long (108)], vm := .none },
  { cls := 11, slots := #[.long (109)], vm := .none },
  { cls := 11, slots := #[.long (110)], vm := .none },
  { cls := 11, slots := #[.long (111)], vm := .none },
  { cls := 11, slots := #[.long (112)], vm := .none },
  { cls := 11, slots := #[.long (113)], vm := .none },
  { cls := 11, slots := #[.long (114)], vm := .none },
  { cls := 11, slots := #[.long (115)], vm := .none },
  { cls := 11, slots := #[.long (116)], vm := .none },
  { cls := 11, slots := #[.long (117)], vm := .none },
  { cls := 11, slots := #[.long (118)], vm := .none },
  { cls := 11, slots := #[.long (119)], vm := .none },
  { cls := 11, slots := #[.long (120)], vm := .none },
  { cls := 11, slots := #[.long (121)], vm := .none },
  { cls := 11, slots := #[.long (122)], vm := .none },
  { cls := 11, slots := #[.long (123)], vm := .none },
  { cls := 11, slots := #[.long (124)], vm := .none },
  { cls := 11, slots := #[.long (125)], vm := .none },
  { cls := 11, slots := #[.long (126)], vm := .none },
  { cls := 11, slots := #[.long (127)], vm := .none }]
def classes : Array Class := #[k0, k1, k2, k3, k4, k5, k6, k7, k8, k9, k10, k11, k12, k13, k14, k15, k16, k17, k18, k19]
def interned : List (Array UInt16 × Addr) := []
def slotsUsed : Nat := 1032
def theMethod : MethodId := ⟨1, 1⟩
def args0 : Array Value := #[.int 5, .int 9, .int 0, .int 77]
def aboutOver (below : List Frame) : State where
  vm := { classes := classes, interned := interned.toArray }
  heap := heap
  slotsUsed := slotsUsed
  threads := #[{ frames := .invoking theMethod args0 :: below }]
def below0 : List Frame := [.native { method := ⟨0, 0⟩, args := #[] }]
def about1 : State := aboutOver below0
def p0 : Program := .bare "" "" ""
def e0 : Env := launch0.env 0 0 0
theorem w_frames : about1.frames = Frame.invoking theMethod args0 :: below0 := rfl
set_option maxRecDepth 65536 in
theorem w_args : argsFit about1.vm theMethod args0 = true := by decide +kernel
set_option maxRecDepth 65536 in
theorem w_heap : heapFits about1 = true := by decide +kernel
set_option maxRecDepth 65536 in
theorem w_runnable : about1.curStatus? = some .runnable := by decide +kernel
set_option maxRecDepth 65536 in
theorem w_alone : about1.alone = true := by decide +kernel
set_option maxRecDepth 65536 in
theorem w_named : about1.methodNamed? x = some theMethod := by decide +kernel
set_option maxRecDepth 65536 in
theorem w_hears : about1.hears theMethod below0 = true := by decide +kernel
set_option maxRecDepth 65536 in
theorem w_ripe : about1.ripe theMethod args0 below0 = true := by decide +kernel
theorem w_running : about1.status = .running := rfl
set_option maxRecDepth 65536 in
theorem w_room : about1.hasRoom e0.platform room_1 = true :=
  launch0.hasRoom_least _ room_1 (by decide +kernel) (by decide +kernel) (by decide +kernel) (by decide +kernel) (by decide +kernel) (by decide +kernel)
theorem allAtoms_all (ts : List Jvm.Cond) (a : Array Jvm.Value) (st : Jvm.State) : (allAtoms ts).before a st = ts.all (fun c => c.before a st) := by
  induction ts with
  | nil => rfl
  | cons c t ih =>
    show (Jvm.Cond.and c (allAtoms t)).before a st = _
    rw [Jvm.Cond.before_and, ih, List.all_cons]
def words1 : List Jvm.Cond := Jvm.Cond.code x code maxLocals ret :: tables_1
/-- a 'code' word, met by the world's own term for the bytes: nothing is compared byte by byte -/
theorem code_word {y : MethodName} {bytes : ByteArray} {mx : Nat} {rt : Option FieldType} {a : Array Value} {s : State} {m : MethodId} {meth : Method} {c : Code} (h1 : s.methodNamed? y = some m) (h2 : s.vm.method? m = some meth) (h3 : meth.code = some c) (h4 : c.code = bytes)
    (h5 : (c.maxLocals == mx && c.exceptionTable.isEmpty && decide (c.maxStack ≤ mostOperands) && decide (meth.sig.returnType = rt) && !meth.locks && decide (parseMethodDescriptor y.desc = some meth.sig)) = true) : (Jvm.Cond.code y bytes mx rt).before a s = true := by
  simp only [Bool.and_eq_true, beq_iff_eq, Bool.not_eq_true', decide_eq_true_eq] at h5
  obtain ⟨⟨⟨⟨⟨g1, g2⟩, g3⟩, g4⟩, g5⟩, g6⟩ := h5
  simp [Cond.before, Cond.holds, Cond.value, h1, h2, h3, h4, g1, g2, g3, g4, g5, g6]
def isCode : Jvm.Cond → Bool
  | .code _ _ _ _ => true
  | _ => false
theorem all_split {L : List Jvm.Cond} {P : Jvm.Cond → Bool} (h1 : L.all (fun c => isCode c || P c) = true) (h2 : ∀ c ∈ L.filter isCode, P c = true) : L.all P = true := by
  refine List.all_eq_true.mpr fun c hc => ?_
  have h := List.all_eq_true.mp h1 c hc
  rcases Bool.eq_false_or_eq_true (isCode c) with hi | hi
  · exact h2 c (List.mem_filter.mpr ⟨hc, hi⟩)
  · simpa [hi] using h
set_option maxRecDepth 65536 in
theorem w_c0 : (Jvm.Cond.code x code maxLocals ret).before args0 about1 = true := code_word (m := ⟨1, 1⟩) (meth := k1m1) (c := k1c1) (by decide +kernel) rfl rfl rfl (by decide +kernel)
set_option maxRecDepth 65536 in
theorem w_c1 : (Jvm.Cond.code ({ cls := "java/lang/Integer", name := "valueOf", desc := "(I)Ljava/lang/Integer;" } : Jvm.MethodName) jdk_33_method_22_code (1 : Nat) (Option.some (Jvm.ClassFile.FieldType.object "java/lang/Integer"))).before args0 about1 = true := code_word (m := ⟨7, 0⟩) (meth := k7m0) (c := k7c0) (by decide +kernel) rfl rfl rfl (by decide +kernel)
set_option maxRecDepth 65536 in
theorem w_c2 : (Jvm.Cond.code ({ cls := "com/example/millrace/millrace/runtime/aggregate/Count", name := "<init>", desc := "()V" } : Jvm.MethodName) prog_82_method_1_code (1 : Nat) (Option.none : Option Jvm.ClassFile.FieldType)).before args0 about1 = true := code_word (m := ⟨10, 0⟩) (meth := k10m0) (c := k10c0) (by decide +kernel) rfl rfl rfl (by decide +kernel)
set_option maxRecDepth 65536 in
theorem w_c3 : (Jvm.Cond.code ({ cls := "java/lang/Object", name := "<init>", desc := "()V" } : Jvm.MethodName) object_method_1_code (1 : Nat) (Option.none : Option Jvm.ClassFile.FieldType)).before args0 about1 = true := code_word (m := ⟨0, 0⟩) (meth := k0m0) (c := k0c0) (by decide +kernel) rfl rfl rfl (by decide +kernel)
set_option maxRecDepth 65536 in
theorem w_c4 : (Jvm.Cond.code ({ cls := "com/example/millrace/millrace/runtime/aggregate/CountEqualsPinLaw", name := "step", desc := "(Lcom/example/millrace/millrace/runtime/aggregate/Count;ILjava/lang/Object;I)I" } : Jvm.MethodName) method_3_code (4 : Nat) (Option.some Jvm.ClassFile.FieldType.int)).before args0 about1 = true := code_word (m := ⟨1, 2⟩) (meth := k1m2) (c := k1c2) (by decide +kernel) rfl rfl rfl (by decide +kernel)
set_option maxRecDepth 65536 in
theorem w_c5 : (Jvm.Cond.code ({ cls := "com/example/millrace/millrace/runtime/aggregate/Count", name := "add", desc := "(Ljava/lang/Object;)V" } : Jvm.MethodName) prog_82_method_2_code (2 : Nat) (Option.none : Option Jvm.ClassFile.FieldType)).before args0 about1 = true := code_word (m := ⟨10, 1⟩) (meth := k10m1) (c := k10c1) (by decide +kernel) rfl rfl rfl (by decide +kernel)
set_option maxRecDepth 65536 in
theorem w_c6 : (Jvm.Cond.code ({ cls := "com/example/millrace/millrace/runtime/aggregate/Count", name := "remove", desc := "(Ljava/lang/Object;)V" } : Jvm.MethodName) prog_82_method_3_code (2 : Nat) (Option.none : Option Jvm.ClassFile.FieldType)).before args0 about1 = true := code_word (m := ⟨10, 2⟩) (meth := k10m2) (c := k10c2) (by decide +kernel) rfl rfl rfl (by decide +kernel)
set_option maxRecDepth 65536 in
theorem w_c7 : (Jvm.Cond.code ({ cls := "java/lang/Long", name := "valueOf", desc := "(J)Ljava/lang/Long;" } : Jvm.MethodName) jdk_35_method_24_code (3 : Nat) (Option.some (Jvm.ClassFile.FieldType.object "java/lang/Long"))).before args0 about1 = true := code_word (m := ⟨11, 0⟩) (meth := k11m0) (c := k11c0) (by decide +kernel) rfl rfl rfl (by decide +kernel)
set_option maxRecDepth 65536 in
theorem w_c8 : (Jvm.Cond.code ({ cls := "com/example/millrace/millrace/runtime/aggregate/Count", name := "equals", desc := "(Ljava/lang/Object;)Z" } : Jvm.MethodName) prog_82_method_6_code (3 : Nat) (Option.some Jvm.ClassFile.FieldType.boolean)).before args0 about1 = true := code_word (m := ⟨10, 3⟩) (meth := k10m3) (c := k10c3) (by decide +kernel) rfl rfl rfl (by decide +kernel)
set_option maxRecDepth 65536 in
theorem w_c9 : (Jvm.Cond.code ({ cls := "java/lang/Integer", name := "<init>", desc := "(I)V" } : Jvm.MethodName) jdk_33_method_23_code (2 : Nat) (Option.none : Option Jvm.ClassFile.FieldType)).before args0 about1 = true := code_word (m := ⟨7, 1⟩) (meth := k7m1) (c := k7c1) (by decide +kernel) rfl rfl rfl (by decide +kernel)
set_option maxRecDepth 65536 in
theorem w_c10 : (Jvm.Cond.code ({ cls := "java/lang/Number", name := "<init>", desc := "()V" } : Jvm.MethodName) jdk_18_method_1_code (1 : Nat) (Option.none : Option Jvm.ClassFile.FieldType)).before args0 about1 = true := code_word (m := ⟨3, 0⟩) (meth := k3m0) (c := k3c0) (by decide +kernel) rfl rfl rfl (by decide +kernel)
def codes1 : List Jvm.Cond := [Jvm.Cond.code x code maxLocals ret, Jvm.Cond.code ({ cls := "java/lang/Integer", name := "valueOf", desc := "(I)Ljava/lang/Integer;" } : Jvm.MethodName) jdk_33_method_22_code (1 : Nat) (Option.some (Jvm.ClassFile.FieldType.object "java/lang/Integer")), Jvm.Cond.code ({ cls := "com/example/millrace/millrace/runtime/aggregate/Count", name := "<init>", desc := "()V" } : Jvm.MethodName) prog_82_method_1_code (1 : Nat) (Option.none : Option Jvm.ClassFile.FieldType), Jvm.Cond.code ({ cls := "java/lang/Object", name := "<init>", desc := "()V" } : Jvm.MethodName) object_method_1_code (1 : Nat) (Option.none : Option Jvm.ClassFile.FieldType), Jvm.Cond.code ({ cls := "com/example/millrace/millrace/runtime/aggregate/CountEqualsPinLaw", name := "step", desc := "(Lcom/example/millrace/millrace/runtime/aggregate/Count;ILjava/lang/Object;I)I" } : Jvm.MethodName) method_3_code (4 : Nat) (Option.some Jvm.ClassFile.FieldType.int), Jvm.Cond.code ({ cls := "com/example/millrace/millrace/runtime/aggregate/Count", name := "add", desc := "(Ljava/lang/Object;)V" } : Jvm.MethodName) prog_82_method_2_code (2 : Nat) (Option.none : Option Jvm.ClassFile.FieldType), Jvm.Cond.code ({ cls := "com/example/millrace/millrace/runtime/aggregate/Count", name := "remove", desc := "(Ljava/lang/Object;)V" } : Jvm.MethodName) prog_82_method_3_code (2 : Nat) (Option.none : Option Jvm.ClassFile.FieldType), Jvm.Cond.code ({ cls := "java/lang/Long", name := "valueOf", desc := "(J)Ljava/lang/Long;" } : Jvm.MethodName) jdk_35_method_24_code (3 : Nat) (Option.some (Jvm.ClassFile.FieldType.object "java/lang/Long")), Jvm.Cond.code ({ cls := "com/example/millrace/millrace/runtime/aggregate/Count", name := "equals", desc := "(Ljava/lang/Object;)Z" } : Jvm.MethodName) prog_82_method_6_code (3 : Nat) (Option.some Jvm.ClassFile.FieldType.boolean), Jvm.Cond.code ({ cls := "java/lang/Integer", name := "<init>", desc := "(I)V" } : Jvm.MethodName) jdk_33_method_23_code (2 : Nat) (Option.none : Option Jvm.ClassFile.FieldType), Jvm.Cond.code ({ cls := "java/lang/Number", name := "<init>", desc := "()V" } : Jvm.MethodName) jdk_18_method_1_code (1 : Nat) (Option.none : Option Jvm.ClassFile.FieldType)]
set_option maxRecDepth 65536 in
theorem codes_eq : words1.filter isCode = codes1 := rfl
theorem w_codes : ∀ c ∈ words1.filter isCode, c.before args0 about1 = true := by
  rw [codes_eq]
  intro c hc
  simp only [codes1, List.mem_cons, List.not_mem_nil, or_false] at hc
  rcases hc with rfl | rfl | rfl | rfl | rfl | rfl | rfl | rfl | rfl | rfl | rfl
  · exact w_c0
  · exact w_c1
  · exact w_c2
  · exact w_c3
  · exact w_c4
  · exact w_c5
  · exact w_c6
  · exact w_c7
  · exact w_c8
  · exact w_c9
  · exact w_c10
set_option maxRecDepth 65536 in
theorem w_t1 : (words1.take 24).all (fun c => isCode c || c.before args0 about1) = true := by decide +kernel
set_option maxRecDepth 65536 in
theorem w_t2 : ((words1.drop 24).take 24).all (fun c => isCode c || c.before args0 about1) = true := by decide +kernel
set_option maxRecDepth 65536 in
theorem w_t3 : ((words1.drop 24).drop 24).all (fun c => isCode c || c.before args0 about1) = true := by decide +kernel
theorem w_tables : (allAtoms (Jvm.Cond.code x code maxLocals ret :: tables_1)).before args0 about1 = true := by
  rw [allAtoms_all]
  show words1.all (fun c => c.before args0 about1) = true
  refine all_split ?_ w_codes
  rw [← List.take_append_drop 24 words1, List.all_append, w_t1, ← List.take_append_drop 24 (words1.drop 24), List.all_append, w_t2, w_t3]
  rfl
set_option maxRecDepth 65536 in
theorem w_rest : rest_1_c.before args0 about1 = true := by decide +kernel
set_option maxRecDepth 65536 in
theorem w_case : (Jvm.Cond.and given_1 narrow_1).before args0 about1 = true := by decide +kernel
theorem w_applies : (headSpec (Jvm.Cond.code x code maxLocals ret :: tables_1) room_1).applies x e0.platform about1 = true :=
  (Spec.applies_iff w_frames).mpr ⟨w_running, w_runnable, w_alone, w_named, w_hears, w_ripe, w_room, w_tables⟩
theorem atStart : AtStart classFile x code maxLocals ret World_1 tables_1 room_1 Calls_1 rest_1 Pre_1 launch0 p0 e0 about1 theMethod args0 below0 :=
  ⟨lists_1, trivial, launch0.admits_env _ _ _, launch0.least_env, fairChoices_fair.cas, fairChoices_fair.clock, w_frames, w_args, w_heap, w_applies, trivial, w_rest, w_case⟩
end start1
theorem witness_1 : WitnessClaimed_1 := ⟨start1.p0, start1.e0, start1.about1, start1.theMethod, start1.args0, start1.below0, start1.atStart⟩
end Jvm.Pilot.@@N@@
