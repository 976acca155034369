import JvmDerived
import JvmDerived.Pilot.@@N@@Statement
import JvmDerived.Pilot.@@N@@Code
set_option linter.unusedVariables false
set_option linter.unusedSimpArgs false
namespace Jvm.RoadKit
open Sem ClassFile Op Lib Jvm.Stand Jvm.Free Jvm.LawKit
def RAr (Z : State) (h : Heap) (a : Addr) (ty : FieldType) (n : Int32) (f : Nat → Addr) : Prop := ∃ c : Cell, Arr Z h a c ty ∧ c.slots.size = n.toNatClampNeg ∧ ¬ n < 0 ∧ ∀ i, i < c.slots.size → c.slots[i]? = some (.ref (f i))
section
variable {Z : State} {h h' : Heap} {a b : Addr} {ty : FieldType} {n : Int32} {f : Nat → Addr} {sl : Nat} {v : Value} {ws : List Addr}
theorem RAr.lt (F : RAr Z h a ty n f) : a < h.size := by obtain ⟨c, A, -⟩ := F; exact A.lt
theorem RAr.ext (F : RAr Z h a ty n f) (E : Ext h h') : RAr Z h' a ty n f := by obtain ⟨c, A, r⟩ := F; exact ⟨c, A.ext E, r⟩
theorem RAr.other (F : RAr Z h b ty n f) (W : Wr h h' a sl v) (q : b ≠ a) : RAr Z h' b ty n f := by obtain ⟨c, A, r⟩ := F; exact ⟨c, A.other W q, r⟩
theorem RAr.keep (F : RAr Z h a ty n f) (K : Keep h h' ws) (q : a ∉ ws) : RAr Z h' a ty n f := by obtain ⟨c, A, r⟩ := F; exact ⟨c, ⟨K.2.1 a c A.1 q, A.2⟩, r⟩
theorem own_staK0 {C m d : String} {w : Value} (S : Sta Z h C m d w) (K : Keep h h' []) : Sta Z h' C m d w := by
  obtain ⟨cf, i, k, f, st, cell, h1, h2, h3, h4, h5, h6, h7⟩ := S
  exact ⟨cf, i, k, f, st, cell, h1, h2, h3, h4, K.2.1 st cell h5 nin0, h6, h7⟩
theorem own_staK {C m d : String} {w : Value} (S : Sta Z h C m d w) (K : Keep h h' ws) (hw : ∀ x ∈ ws, ∀ cell : Cell, h[x]? = some cell → cell.vm.isStatics = false) : Sta Z h' C m d w := by
  obtain ⟨cf, i, k, f, st, cell, h1, h2, h3, h4, h5, h6, h7⟩ := S
  exact ⟨cf, i, k, f, st, cell, h1, h2, h3, h4, K.2.1 st cell h5 (fun q => by have z := hw st q cell h5; rw [h6] at z; cases z), h6, h7⟩
theorem own_ns0 : ∀ x ∈ ([] : List Addr), ∀ cell : Cell, h[x]? = some cell → cell.vm.isStatics = false := fun _ q => nomatch q
theorem own_nsS (n : ∀ cell : Cell, h[a]? = some cell → cell.vm.isStatics = false) (r : ∀ x ∈ ws, ∀ cell : Cell, h[x]? = some cell → cell.vm.isStatics = false) : ∀ x ∈ a :: ws, ∀ cell : Cell, h[x]? = some cell → cell.vm.isStatics = false := fun x q => by
  rcases List.mem_cons.mp q with rfl | q
  · exact n
  · exact r x q
theorem own_staK1 {C m d D : String} {w : Value} (S : Sta Z h C m d w) (K : Keep h h' [a]) (E : Exa Z h a D) : Sta Z h' C m d w := by
  obtain ⟨cf, i, k, f, st, cell, h1, h2, h3, h4, h5, h6, h7⟩ := S
  obtain ⟨c2, k2, g1, g2, g3, g4, g5⟩ := E
  have ne : st ≠ a := fun e => by
    subst e
    cases h5.symm.trans g1
    rw [g4] at h6
    cases h6
  exact ⟨cf, i, k, f, st, cell, h1, h2, h3, h4, K.2.1 st cell h5 (ninS ne nin0), h6, h7⟩
end
def IAr (Z : State) (h : Heap) (a : Addr) (ty : FieldType) (n : Int32) (f : Nat → Int32) : Prop := ∃ c : Cell, Arr Z h a c ty ∧ c.slots.size = n.toNatClampNeg ∧ ¬ n < 0 ∧ ∀ i, i < c.slots.size → c.slots[i]? = some (.int (f i))
def ownU (f : Nat → Int32) (j : Nat) (v : Int32) : Nat → Int32 := fun i => if i = j then v else f i
section
variable {Z : State} {h h' : Heap} {a b : Addr} {ty : FieldType} {n : Int32} {f : Nat → Int32} {sl : Nat} {v : Value} {ws : List Addr}
theorem IAr.lt (F : IAr Z h a ty n f) : a < h.size := by obtain ⟨c, A, -⟩ := F; exact A.lt
theorem IAr.ext (F : IAr Z h a ty n f) (E : Ext h h') : IAr Z h' a ty n f := by obtain ⟨c, A, r⟩ := F; exact ⟨c, A.ext E, r⟩
theorem IAr.other (F : IAr Z h b ty n f) (W : Wr h h' a sl v) (q : b ≠ a) : IAr Z h' b ty n f := by obtain ⟨c, A, r⟩ := F; exact ⟨c, A.other W q, r⟩
theorem IAr.keep (F : IAr Z h a ty n f) (K : Keep h h' ws) (q : a ∉ ws) : IAr Z h' a ty n f := by obtain ⟨c, A, r⟩ := F; exact ⟨c, ⟨K.2.1 a c A.1 q, A.2⟩, r⟩
theorem IAr.nostat (F : IAr Z h a ty n f) : ∀ cell : Cell, h[a]? = some cell → cell.vm.isStatics = false := by obtain ⟨c, A, r⟩ := F; exact Arr.nostat A
theorem IAr.nn (F : IAr Z h a ty n f) : ¬ n < 0 := by obtain ⟨c, A, S, q, r⟩ := F; exact q
theorem IAr.new {k : ClassId} {z : Int32} (A : Arr Z h a (newA k ty z) ty) (q : ¬ z < 0) (hd : defaultValue ty = .int 0) : IAr Z h a ty z (fun _ => 0) := by
  obtain ⟨c, A', -, S, q', H, -⟩ := Arv.new A q
  exact ⟨c, A', S, q', fun i hi => by have h1 := H i hi; rw [hd] at h1; simpa using h1⟩
theorem IAr.set {j : Nat} {x : Int32} (F : IAr Z h a ty n f) (W : Wr h h' a j (.int x)) : IAr Z h' a ty n (ownU f j x) := by
  obtain ⟨c, A, S, q, H⟩ := F
  refine ⟨c.setSlot j (.int x), A.same W, ?_, q, fun i hi => ?_⟩
  · simpa [Cell.setSlot] using S
  · have hi' : i < c.slots.size := by simpa [Cell.setSlot] using hi
    show (c.slots.setIfInBounds j (.int x))[i]? = some (.int (if i = j then x else f i))
    by_cases e : i = j
    · subst e
      rw [if_pos rfl, Array.getElem?_setIfInBounds_self_of_lt hi']
    · rw [if_neg e, Array.getElem?_setIfInBounds_ne (Ne.symm e)]
      exact H i hi'
end
section New
variable {p : Program} {l : Launch} {e : Env} {R : Room} {s : State} {m : MethodId} {args : Array Value} {below : List Frame} {meth : Method} {c : Code} {T : State} {locs : List Loc} {cells slots : Nat}
theorem retI (X : Stand p l e R s m args below meth c T locs cells slots) (hx : p.tables.exec = Jvm.exec) {pc : Nat} {Ls : Array Slot} {z : Int32} {rest : List Value} (hret : meth.sig.returnType = some .int) (hd : decode c.code pc = .ok (.ireturn, 1)) {fs : List Frame}
    (hl : ∀ (f : JFrame) (acts : List Action), f.method = m → f.locked = none → f.entered = [] → (doReturn e (T.setTop f) acts (some (.int z))).1 = T.setFrames fs) : Steps p.tables e below (T.setTop (mkF m pc Ls (.int z :: rest))) (T.setFrames fs) := by
  have hm' : T.vm.method? m = some meth := X.method'
  have hn : narrow .int (.int z) = .int z := rfl
  show Steps p.tables e below (T.setTop { method := m, pc := pc, locals := Ls, stack := _ :: rest, locked := none }) _
  jvm_step X.here [X.here.top, hx, hd, hm', hret, hn]
  first | (intro acts; rw [hl _ acts rfl rfl rfl]) | rw [hl _ _ rfl rfl rfl]
  exact Steps.refl _
theorem ldB {Z : State} {h : Heap} (X : Stand p l e R s m args below meth c T locs cells slots) (hx : p.tables.exec = Jvm.exec) (hZ : Z.Warmed39 s.vm) (eT : T.heap = h) {a : Addr} {n : Int32} {f : Nat → Int32} (F : IAr Z h a .byte n f) {j : Int32} (hj : ¬ j < 0 ∧ j < n) {g : JFrame} (hg : g.method = m) {rest : List Value} (hs : g.stack = .int j :: .ref a :: rest) (hd : decode c.code g.pc = .ok (.baload, 1)) {target : State}
    (hr : Steps p.tables e below (T.setTop { g with pc := g.pc + 1, stack := .int (f j.toNatClampNeg) :: rest }) target) : Steps p.tables e below (T.setTop g) target := by
  obtain ⟨cl, A, S, q, H⟩ := F
  exact X.baloadBytes hx (by rw [eT]; exact A.1) (State.isArrayOf_alike hZ.alike A.2.1) A.2.2 (inb_of S hj) (H _ (Nat.lt_of_not_le fun y => inb_of S hj (Or.inr y))) hg hs hd _ hr
theorem sB {Z : State} {h : Heap} (X : Stand p l e R s m args below meth c T locs cells slots) (hx : p.tables.exec = Jvm.exec) (hZ : Z.Warmed39 s.vm) (eT : T.heap = h) {a : Addr} {n : Int32} {f : Nat → Int32} (F : IAr Z h a .byte n f) {j : Int32} {x : Int32} (hj : ¬ j < 0 ∧ j < n) {g : JFrame} (hg : g.method = m) {rest : List Value} (hs : g.stack = .int x :: .int j :: .ref a :: rest) (hd : decode c.code g.pc = .ok (.bastore, 1)) :
    ∃ T' h', Stand p l e R s m args below meth c T' (locs ++ [⟨a, j.toNatClampNeg⟩]) cells slots ∧ T'.heap = h' ∧ Wr h h' a j.toNatClampNeg (.int (nar .byte x)) ∧ IAr Z h' a .byte n (ownU f j.toNatClampNeg (nar .byte x)) ∧ ∀ target, Steps p.tables e below (T'.setTop { g with pc := g.pc + 1, stack := rest }) target → Steps p.tables e below (T.setTop g) target := by
  have F' := F
  obtain ⟨cl, A, S, q, H⟩ := F
  obtain ⟨T', h', X', e', W', st'⟩ := stB X hx hZ eT A (inb_of S hj) hg hs hd
  exact ⟨T', h', X', e', W', F'.set W', st'⟩
theorem ldC {Z : State} {h : Heap} (X : Stand p l e R s m args below meth c T locs cells slots) (hx : p.tables.exec = Jvm.exec) (hZ : Z.Warmed39 s.vm) (eT : T.heap = h) {a : Addr} {n : Int32} {f : Nat → Int32} (F : IAr Z h a .char n f) {j : Int32} (hj : ¬ j < 0 ∧ j < n) {g : JFrame} (hg : g.method = m) {rest : List Value} (hs : g.stack = .int j :: .ref a :: rest) (hd : decode c.code g.pc = .ok (.caload, 1)) {target : State}
    (hr : Steps p.tables e below (T.setTop { g with pc := g.pc + 1, stack := .int (f j.toNatClampNeg) :: rest }) target) : Steps p.tables e below (T.setTop g) target := by
  obtain ⟨cl, A, S, q, H⟩ := F
  exact X.caload hx (by rw [eT]; exact A.1) (State.isArrayOf_alike hZ.alike A.2.1) A.2.2 (inb_of S hj) (H _ (Nat.lt_of_not_le fun y => inb_of S hj (Or.inr y))) hg hs hd _ hr
theorem sC {Z : State} {h : Heap} (X : Stand p l e R s m args below meth c T locs cells slots) (hx : p.tables.exec = Jvm.exec) (hZ : Z.Warmed39 s.vm) (eT : T.heap = h) {a : Addr} {n : Int32} {f : Nat → Int32} (F : IAr Z h a .char n f) {j : Int32} {x : Int32} (hj : ¬ j < 0 ∧ j < n) {g : JFrame} (hg : g.method = m) {rest : List Value} (hs : g.stack = .int x :: .int j :: .ref a :: rest) (hd : decode c.code g.pc = .ok (.castore, 1)) :
    ∃ T' h', Stand p l e R s m args below meth c T' (locs ++ [⟨a, j.toNatClampNeg⟩]) cells slots ∧ T'.heap = h' ∧ Wr h h' a j.toNatClampNeg (.int (nar .char x)) ∧ IAr Z h' a .char n (ownU f j.toNatClampNeg (nar .char x)) ∧ ∀ target, Steps p.tables e below (T'.setTop { g with pc := g.pc + 1, stack := rest }) target → Steps p.tables e below (T.setTop g) target := by
  have F' := F
  obtain ⟨cl, A, S, q, H⟩ := F
  obtain ⟨T', h', X', e', W', st'⟩ := stC X hx hZ eT A (inb_of S hj) hg hs hd
  exact ⟨T', h', X', e', W', F'.set W', st'⟩
theorem alen {Z : State} {h : Heap} (X : Stand p l e R s m args below meth c T locs cells slots) (hx : p.tables.exec = Jvm.exec) (hZ : Z.Warmed39 s.vm) (eT : T.heap = h) {a : Addr} {ty : FieldType} {n : Int32} {f : Nat → Int32} (F : IAr Z h a ty n f) {g : JFrame} (hg : g.method = m) {rest : List Value} (hs : g.stack = .ref a :: rest) (hd : decode c.code g.pc = .ok (.arraylength, 1)) {target : State}
    (hr : Steps p.tables e below (T.setTop { g with pc := g.pc + 1, stack := .int n :: rest }) target) : Steps p.tables e below (T.setTop g) target := by
  obtain ⟨cl, A, S, q, H⟩ := F
  refine X.arraylength hx (by rw [eT]; exact A.1) (State.isArrayOf_alike hZ.alike A.2.1) hg hs hd _ ?_
  rw [len_of S q]
  exact hr
theorem ldR {Z : State} {h : Heap} (X : Stand p l e R s m args below meth c T locs cells slots) (hx : p.tables.exec = Jvm.exec) (hZ : Z.Warmed39 s.vm) (eT : T.heap = h) {a : Addr} {ty : FieldType} {n : Int32} {f : Nat → Addr} (F : RAr Z h a ty n f) (hty : ty.isReference = true) {j : Int32} (hj : ¬ j < 0 ∧ j < n) {g : JFrame} (hg : g.method = m) {rest : List Value} (hs : g.stack = .int j :: .ref a :: rest) (hd : decode c.code g.pc = .ok (.aaload, 1)) {target : State}
    (hr : Steps p.tables e below (T.setTop { g with pc := g.pc + 1, stack := .ref (f j.toNatClampNeg) :: rest }) target) : Steps p.tables e below (T.setTop g) target := by
  obtain ⟨cl, A, S, q, H⟩ := F
  exact X.aaload hx (by rw [eT]; exact A.1) (State.isArrayOf_alike hZ.alike A.2.1) hty A.2.2 (inb_of S hj) (H _ (Nat.lt_of_not_le fun y => inb_of S hj (Or.inr y))) hg hs hd _ hr
theorem own_backW {Z : State} {a0 : Array Value} {h : Heap} {y : MethodName} {bytes : ByteArray} {maxL : Nat} {ret : Option FieldType} {rm : Room} {len W : Nat} {as' : Array Value} {Q : Option Value → Heap → List Loc → Prop}
    (hM : MetFree l y (head1 [Cond.code y bytes maxL ret] rm) (fun a U => a = as' ∧ Z.Warmed39 U.vm ∧ U.heap = h ∧ U.vm.interned = Z.vm.interned) (fun _ _ _ _ _ => True) (fun _ U o U' => ∃ v L, o = .returned v ∧ Q v U'.heap L ∧ ReturnedEndW U o U' L rm.cells rm.slots))
    (hint : s.vm.interned = Z.vm.interned) (hZ : Z.Warmed39 s.vm) (wc : (Cond.code y bytes maxL ret).before a0 Z = true) (wz : (Cond.initialized y.cls).before a0 Z = true) (hf : rm.frames + 1 ≤ R.frames) (hl : W + (maxL + 11) + rm.locals ≤ R.locals) :
    BackS l R p e below s args y len W (fun A a => a = as' ∧ A.U.heap = h ∧ A.cells + rm.cells ≤ R.cells ∧ A.slots + rm.slots ≤ R.slots)
      (fun A _ v B => ∃ L, Q v B.U.heap L ∧ B.locs = A.locs ++ L ∧ B.cells = A.cells + rm.cells ∧ B.slots = A.slots + rm.slots) := by
  refine BackS.of_freeW (bytes := bytes) (maxL := maxL) (ret := ret) (E := fun _ _ o t L k n => (k = rm.cells ∧ n = rm.slots) ∧ ∃ v, o = .returned v ∧ Q v t.heap L) hM hf hl ?pre ?start ?ctx ?cut ?post
  case pre =>
    intro m meth c A a Y hp
    have hU := wtrans hZ Y.warmed
    refine ⟨?_, mv hU wc, mv hU wz, hp.2.2⟩
    show (Cond.and _ .tt).before a A.U = true
    rw [Cond.before_and, Bool.and_eq_true]
    exact ⟨mv hU wc, rfl⟩
  case start =>
    intro m meth c A a g mk Y hp
    exact ⟨hp.1, wtrans hZ Y.warmed, hp.2.1, Y.warmed.interned_eq.trans hint⟩
  case ctx => intros; trivial
  case cut =>
    intro a U o U' hq
    obtain ⟨v, L, hv, hQ, hE⟩ := hq
    exact ⟨L, rm.cells, rm.slots, hE, ⟨rfl, rfl⟩, v, hv, hQ⟩
  case post =>
    intro m meth c A a g mk v t L k n Y hp hq hE hk
    obtain ⟨⟨rfl, rfl⟩, v', hv, hQ⟩ := hk
    obtain rfl := Outcome.returned.inj hv
    exact ⟨L, hQ, rfl, rfl, rfl⟩
end New
end Jvm.RoadKit
namespace Jvm.Pilot.@@N@@
open Jvm Jvm.ClassFile Sem Op Lib Jvm.Free Jvm.Stand Jvm.LawKit Jvm.RoadKit Bundle Jvm.Pilot.@@N@@.Jvm.D
theorem own_eqint {t : Term} {n : Int32} {args : Array Value} {s : State} {idx : List Nat} (h : (Cond.eq t (.int n)).value args s none s idx = some true) : t.eval args s none idx s = some (.int n) := by
  have hn : (Term.int n).eval args s none idx s = some (.int n) := rfl
  simp only [Cond.value] at h
  rw [hn] at h
  cases hv : t.eval args s none idx s with
  | none => simp [hv] at h
  | some v =>
    cases v with
    | int x => simp [hv] at h; rw [h]
    | _ => simp [hv] at h
theorem own_orv {a b : Cond} {args : Array Value} {s : State} {idx : List Nat} (h : (Cond.or a b).value args s none s idx = some true) : a.value args s none s idx = some true ∨ b.value args s none s idx = some true := by
  simp only [Cond.value] at h
  cases ha : a.value args s none s idx with
  | none => simp [ha] at h
  | some x => cases x with
    | true => exact Or.inl rfl
    | false => simp [ha] at h; exact Or.inr h
theorem own_elemv {args : Array Value} {s : State} {t u : Term} {idx : List Nat} {a : Addr} {j v : Int32} {cl : Cell} (ht : t.eval args s none idx s = some (.ref a)) (hu : u.eval args s none idx s = some (.int j)) (hc : s.heap[a]? = some cl) (h : (Cond.eq (Term.elem t u) (.int v)).value args s none s idx = some true) : atv cl j = v :=
  atv_of (elem_in (own_eqint h) ht hu hc).2
theorem own_ofTab {Z : State} {h : Heap} {a : Addr} {cl : Cell} {ty : FieldType} {z : Int32} (T : Tab Z h a cl ty z) (q : cl.slots.size < 2 ^ 31) : IAr Z h a ty z (fun i => atv cl i.toInt32) := by
  obtain ⟨A, S, n, H⟩ := T
  refine ⟨cl, A, S, n, fun i hi => ?_⟩
  have e : i.toInt32.toInt = i := len_toInt (Nat.lt_trans hi q)
  have e2 : i.toInt32.toNatClampNeg = i := by
    show i.toInt32.toInt.toNat = i
    rw [e]; rfl
  have k := H i.toInt32 (by
    rw [e2, Int32.lt_iff_toInt_lt, e, show (0 : Int32).toInt = 0 from rfl]
    omega)
  rw [e2] at k
  exact k
theorem own_len {t : Term} {n : Int32} {args : Array Value} {s : State} {a : Addr} {cl : Cell} (ht : t.eval args s none [] s = some (.ref a)) (hat : s.arrayAt? a = some cl) (h : (Cond.eq (Term.length t) (.int n)).value args s none s [] = some true) : cl.slots.size < 2 ^ 31 ∧ cl.slots.size.toInt32 = n := by
  have k := own_eqint h
  by_cases q : cl.slots.size < 2 ^ 31
  · rw [len_f ht hat q] at k
    exact ⟨q, Value.int.inj (Option.some.inj k)⟩
  · simp [Term.eval, ht, hat, q] at k
theorem own_rem (x y : Int32) : x - (x / y) * y = x % y := by
  apply Int32.toInt_inj.mp
  have h1 := Int32.le_toInt (x % y)
  have h2 := Int32.toInt_lt (x % y)
  rw [Int32.toInt_sub, Int32.toInt_mul, Int32.toInt_div, Int.bmod_mul_bmod, Int.sub_bmod_bmod, Int.mul_comm (x.toInt.tdiv y.toInt), ← Int.tmod_def, ← Int32.toInt_mod]
  exact Int.bmod_eq_of_le_mul_two (by omega) (by omega)
theorem own_nat (x : Int32) : (x.toBitVec.toNat : Int) = x.toInt % 4294967296 := by
  have h := x.toBitVec.isLt
  show _ = x.toBitVec.toInt % 4294967296
  rw [BitVec.toInt_eq_toNat_cond]; split <;> omega
theorem own_mask (x m : Int32) (k : Nat) (hm : m.toBitVec.toNat = 2 ^ k - 1) : (x &&& m).toBitVec.toNat = x.toBitVec.toNat % 2 ^ k := by
  show (x.toBitVec &&& m.toBitVec).toNat = _
  rw [BitVec.toNat_and, hm, Nat.and_two_pow_sub_one_eq_mod]
theorem own_e0 : (0 : Int32).toInt = 0 := rfl
theorem own_e1 : (1 : Int32).toInt = 1 := rfl
theorem own_inc {i : Int32} (h : i.toInt < 2147483647) : (i + 1).toInt = i.toInt + 1 := by
  have b := c_iadd i 1
  have r := rng32 (i + 1)
  have r0 := rng32 i
  have e := own_e1
  omega
theorem own_c1 {i1 i3 i5 p5 z : Int32} {k : Nat} (h : i1.toInt = i5.toInt ∧ i3.toInt = i5.toInt ∧ 0 ≤ i5.toInt ∧ i5.toInt ≤ p5.toInt ∧ p5.toInt - i5.toInt < ((k + 1 : Nat) : Int)) (hz : z = p5) (hc : i5 < p5) : ¬ i1 < 0 ∧ i1 < z := by
  subst hz
  rw [Int32.lt_iff_toInt_lt] at hc
  rw [Int32.lt_iff_toInt_lt, Int32.lt_iff_toInt_lt, own_e0]
  omega
theorem own_c2 {i1 i3 i5 p5 z : Int32} {k : Nat} (h : i1.toInt = i5.toInt ∧ i3.toInt = i5.toInt ∧ 0 ≤ i5.toInt ∧ i5.toInt ≤ p5.toInt ∧ p5.toInt - i5.toInt < ((k + 1 : Nat) : Int)) (hz : z = p5) (hc : i5 < p5) : ¬ i3 < 0 ∧ i3 < z := by
  subst hz
  rw [Int32.lt_iff_toInt_lt] at hc
  rw [Int32.lt_iff_toInt_lt, Int32.lt_iff_toInt_lt, own_e0]
  omega
theorem own_c3 {i1 i3 i5 p5 : Int32} {k : Nat} (h : i1.toInt = i5.toInt ∧ i3.toInt = i5.toInt ∧ 0 ≤ i5.toInt ∧ i5.toInt ≤ p5.toInt ∧ p5.toInt - i5.toInt < ((k + 1 : Nat) : Int)) (hc : i5 < p5) : (i1 + 1).toInt = (i5 + 1).toInt ∧ (i3 + 1).toInt = (i5 + 1).toInt ∧ 0 ≤ (i5 + 1).toInt ∧ (i5 + 1).toInt ≤ p5.toInt ∧ p5.toInt - (i5 + 1).toInt < (k : Int) := by
  rw [Int32.lt_iff_toInt_lt] at hc
  have r := rng32 p5
  rw [own_inc (i := i1) (by omega), own_inc (i := i3) (by omega), own_inc (i := i5) (by omega)]
  omega
theorem own_c4 {p2 p4 p5 : Int32} (h : p2 = 0) (h' : p4 = 0) (hl : 1 ≤ p5.toInt ∧ p5.toInt ≤ 3) : p2.toInt = (0 : Int32).toInt ∧ p4.toInt = (0 : Int32).toInt ∧ 0 ≤ (0 : Int32).toInt ∧ (0 : Int32).toInt ≤ p5.toInt ∧ p5.toInt - (0 : Int32).toInt < ((4 : Nat) : Int) := by
  subst h h'
  rw [own_e0]
  omega
theorem own_n255 {x : Int32} (h : 0 ≤ x.toInt ∧ x.toInt < 256) : ¬ (255 : Int32) < x := by
  rw [Int32.lt_iff_toInt_lt, show (255 : Int32).toInt = 255 from rfl]
  omega
theorem own_z1 {p : Int32} (h : 1 ≤ p.toInt ∧ p.toInt ≤ 3) : ¬ p < 0 := by
  rw [Int32.lt_iff_toInt_lt, own_e0]
  omega
theorem own_z2 {p : Int32} (h : 1 ≤ p.toInt ∧ p.toInt ≤ 3) : p.toNatClampNeg ≤ 3 := by
  show p.toInt.toNat ≤ 3
  omega
theorem own_z3 {p : Int32} (h : 1 ≤ p.toInt ∧ p.toInt ≤ 3) : ¬ p = 0 := by
  intro q
  subst q
  rw [own_e0] at h
  omega
theorem own_chU {c : Nat → Int32} (h : ∀ i, 0 ≤ (c i).toInt ∧ (c i).toInt < 256) (j : Nat) {x : Int32} (hx : 0 ≤ x.toInt ∧ x.toInt < 256) : ∀ i, 0 ≤ (ownU c j (nar .char x) i).toInt ∧ (ownU c j (nar .char x) i).toInt < 256 := by
  intro i
  unfold ownU
  split
  · have a := c_i2c x
    show 0 ≤ (x.toUInt32.toUInt16.toUInt32.toInt32).toInt ∧ (x.toUInt32.toUInt16.toUInt32.toInt32).toInt < 256
    omega
  · exact h i
theorem own_ch (x : Int32) : 0 ≤ ((x &&& (255 : Int32)).toUInt32.toUInt16.toUInt32.toInt32).toInt ∧ ((x &&& (255 : Int32)).toUInt32.toUInt16.toUInt32.toInt32).toInt < 256 := by
  have k1 := c_mask x 255 8 (by decide) rfl
  have k3 := c_i2c (x &&& 255)
  omega
theorem own_wS {Z : State} {a0 : Array Value} (hw : ∀ d ∈ tables_1, d.before a0 Z = true) : ∀ a ∈ Bundle.stringAtoms, a.before a0 Z = true := by
  intro a ha
  simp only [Bundle.stringAtoms, List.mem_cons, List.not_mem_nil, or_false] at ha
  rcases ha with rfl | rfl | rfl | rfl | rfl | rfl | rfl
  · exact hw _ (List.mem_of_getElem? (i := 6) rfl)
  · exact hw _ (List.mem_of_getElem? (i := 7) rfl)
  · exact hw _ (List.mem_of_getElem? (i := 8) rfl)
  · exact hw _ (List.mem_of_getElem? (i := 9) rfl)
  · exact hw _ (List.mem_of_getElem? (i := 10) rfl)
  · exact hw _ (List.mem_of_getElem? (i := 11) rfl)
  · exact hw _ (List.mem_of_getElem? (i := 12) rfl)
theorem own_keep {Z s : State} {h0 : Heap} (hh : s.heap = h0) (hz0 : h0 = Z.heap) : ∀ (b : Addr) (cl : Cell), Z.heap[b]? = some cl → s.heap[b]? = some cl := fun b cl q => by rw [hh, hz0]; exact q
theorem own_IB {Z s : State} (hint : s.vm.interned = Z.vm.interned) : IB Z s.vm [] := ⟨#[], by rw [hint]; simp, fun q hq => by simp at hq⟩
theorem own_arv0 {Z : State} {h : Heap} {b : Addr} {k : ClassId} (A : Arv Z h b k .byte (0 : Int32) [] (.int 0)) : IAr Z h b .byte (0 : Int32) (fun _ => 0) := by
  obtain ⟨c, A1, -, S, q, -, -⟩ := A
  refine ⟨c, A1, S, q, fun i hi => ?_⟩
  rw [S] at hi
  exact absurd hi (Nat.not_lt_zero i)
theorem pn_0 : plainName "java/lang/StringLatin1" = true := by first | (simp [plainName, overriddenIn]; done) | decide +kernel
theorem d13_0 : decode jdk_43_method_3_code 0 = .ok (.iload_n 0, 1) := by decide +kernel
theorem d13_1 : decode jdk_43_method_3_code 1 = .ok (.sipush 255, 3) := by decide +kernel
theorem d13_4 : decode jdk_43_method_3_code 4 = .ok (.if_icmp .gt 7, 3) := by decide +kernel
theorem d13_7 : decode jdk_43_method_3_code 7 = .ok (.iconst 1, 1) := by decide +kernel
theorem d13_8 : decode jdk_43_method_3_code 8 = .ok (.goto 4, 3) := by decide +kernel
theorem d13_11 : decode jdk_43_method_3_code 11 = .ok (.iconst 0, 1) := by decide +kernel
theorem d13_12 : decode jdk_43_method_3_code 12 = .ok (.ireturn, 1) := by decide +kernel
theorem ef_13 (m : MethodId) (x0 : Int32) : entryFrame m #[(.int x0)] 1 = mkF m 0 #[.val (.int x0)] [] := by first | (simp [entryFrame, mkF, argsToLocals, Value.category]; done) | rfl
def f13 (p1 : Int32) : Int32 := (if (255 : Int32) < p1 then (0 : Int32) else (1 : Int32))
def Q13 (Z : State) (p1 : Int32) (h0 : Heap) (n0 : Nat) (v : Option Value) (h : Heap) (L : List Loc) : Prop := v = some (.int (f13 p1)) ∧ Fr n0 L ∧ h = h0
set_option maxRecDepth 65536 in
set_option maxHeartbeats 40000000 in
theorem rm13 (l : Launch) (Z : State) (a0 : Array Value) (hw : ∀ d ∈ tables_1, d.before a0 Z = true) (ws : List Jvm.Cond) (p1 : Int32) (h0 : Heap) (n0 : Nat) (Z0 : n0 ≤ h0.size) :
    MetFree l (⟨"java/lang/StringLatin1", "canEncode", "(C)Z"⟩ : MethodName) (head1 (Jvm.Cond.code (⟨"java/lang/StringLatin1", "canEncode", "(C)Z"⟩ : MethodName) jdk_43_method_3_code 1 (some .boolean) :: ws) ({ frames := 0, cells := 0, slots := 0, locals := 0 } : Room)) (fun a U => a = #[(.int p1)] ∧ Z.Warmed39 U.vm ∧ U.heap = h0) (fun _ _ _ _ _ => True) (fun _ U o U' => ∃ v L, o = .returned v ∧ Q13 Z p1 h0 n0 v U'.heap L ∧ FrameEnd U o U' L ({ frames := 0, cells := 0, slots := 0, locals := 0 } : Room).cells ({ frames := 0, cells := 0, slots := 0, locals := 0 } : Room).slots) := by
  refine MetFree.of_bodySF (plainFor_of_name pn_0) hisR ?_
  intro p e s m args below meth c s₁ Bd hml0 hP hK
  obtain ⟨rfl, hZ, hh⟩ := hP
  have hx := Bd.exec
  have hby := Bd.bytes
  have hml : c.maxLocals = 1 := hml0
  have hown : s.vm.findClass "java/lang/StringLatin1" = some m.cls := findClass_of_methodNamed Bd.named
  have hnm := (name_of_methodNamed Bd.named Bd.method).1
  have X0 : Stand p l e ({ frames := 0, cells := 0, slots := 0, locals := 0 } : Room) s m #[(.int p1)] below meth c s₁ [] 0 0 := Stand.of_body Bd
  have e0 : s₁.heap = h0 := by rw [← hh, Bd.state]; rfl
  have N0 := Fr.nil n0
  have pre0 : ∀ t, Steps p.tables e below (s₁.setTop (mkF m 0 #[.val (.int p1)] [])) t → Steps p.tables e below (s₁.setTop (entryFrame m #[(.int p1)] 1)) t := fun t k => castTop (ef_13 m p1) k
  have pre1 : ∀ t, Steps p.tables e below (s₁.setTop (mkF m 4 #[.val (.int p1)] [(.int (255 : Int32)), (.int p1)])) t → Steps p.tables e below (s₁.setTop (entryFrame m #[(.int p1)] 1)) t := by
    intro t k
    refine pre0 t ?_
    show Steps p.tables e below (s₁.setTop (mkF m 0 #[.val (.int p1)] [])) _
    refine XS.iloadN X0.here hx rfl (hb hby d13_0) rfl ?_
    show Steps p.tables e below (s₁.setTop (mkF m 1 #[.val (.int p1)] [(.int p1)])) _
    refine XS.sipush X0.here hx rfl (hb hby d13_1) ?_
    exact k
  by_cases hc4 : (255 : Int32) < p1
  · have eq2 : (f13 p1) = (0 : Int32) := by unfold f13; simp only [if_pos hc4]
    obtain ⟨fs, hr, hrun, hended, hW, hsame⟩ := X0.leave (v := some (.int (0 : Int32))) (fun h => by rw [Bd.returns] at h; cases h)
    refine ⟨_, _, pre1 _ ?_, hrun, hended, _, _, rfl, ?_, ⟨_, rfl⟩, hW, hsame.mono (by decide) (by decide)⟩
    · show Steps p.tables e below (s₁.setTop (mkF m 4 #[.val (.int p1)] [(.int (255 : Int32)), (.int p1)])) _
      refine XS.icmpYes X0.here hx rfl (pc0 := 4) (pc' := 11) rfl (hb hby d13_4) rfl (tlt hc4).2.2.1 (by decide) (by decide) ?_
      show Steps p.tables e below (s₁.setTop (mkF m 11 #[.val (.int p1)] [])) _
      refine XS.iconst X0.here hx rfl (hb hby d13_11) ?_
      show Steps p.tables e below (s₁.setTop (mkF m 12 #[.val (.int p1)] [(.int (0 : Int32))])) _
      exact retN X0 hx (t := .boolean) Bd.returns (by simp) (hb hby d13_12) hr
    · show Q13 Z p1 h0 n0 _ s₁.heap _
      rw [e0]
      exact ⟨by rw [eq2], N0, rfl⟩
  · have eq3 : (f13 p1) = (1 : Int32) := by unfold f13; simp only [if_neg hc4]
    obtain ⟨fs, hr, hrun, hended, hW, hsame⟩ := X0.leave (v := some (.int (1 : Int32))) (fun h => by rw [Bd.returns] at h; cases h)
    refine ⟨_, _, pre1 _ ?_, hrun, hended, _, _, rfl, ?_, ⟨_, rfl⟩, hW, hsame.mono (by decide) (by decide)⟩
    · show Steps p.tables e below (s₁.setTop (mkF m 4 #[.val (.int p1)] [(.int (255 : Int32)), (.int p1)])) _
      refine XS.icmpNo X0.here hx rfl (hb hby d13_4) rfl (flt hc4).2.2.1 ?_
      show Steps p.tables e below (s₁.setTop (mkF m 7 #[.val (.int p1)] [])) _
      refine XS.iconst X0.here hx rfl (hb hby d13_7) ?_
      show Steps p.tables e below (s₁.setTop (mkF m 8 #[.val (.int p1)] [(.int (1 : Int32))])) _
      refine XS.goto X0.here hx rfl (pc0 := 8) (pc' := 12) rfl (hb hby d13_8) (by decide) (by decide) ?_
      show Steps p.tables e below (s₁.setTop (mkF m 12 #[.val (.int p1)] [(.int (1 : Int32))])) _
      exact retN X0 hx (t := .boolean) Bd.returns (by simp) (hb hby d13_12) hr
    · show Q13 Z p1 h0 n0 _ s₁.heap _
      rw [e0]
      exact ⟨by rw [eq3], N0, rfl⟩
theorem d14_0 : decode jdk_43_method_46_code 0 = .ok (.iconst 1, 1) := by decide +kernel
theorem d14_1 : decode jdk_43_method_46_code 1 = .ok (.newarray .byte, 2) := by decide +kernel
theorem d14_3 : decode jdk_43_method_46_code 3 = .ok (.dup, 1) := by decide +kernel
theorem d14_4 : decode jdk_43_method_46_code 4 = .ok (.iconst 0, 1) := by decide +kernel
theorem d14_5 : decode jdk_43_method_46_code 5 = .ok (.iload_n 0, 1) := by decide +kernel
theorem d14_6 : decode jdk_43_method_46_code 6 = .ok (.i2b, 1) := by decide +kernel
theorem d14_7 : decode jdk_43_method_46_code 7 = .ok (.bastore, 1) := by decide +kernel
theorem d14_8 : decode jdk_43_method_46_code 8 = .ok (.areturn, 1) := by decide +kernel
theorem ef_14 (m : MethodId) (x0 : Int32) : entryFrame m #[(.int x0)] 1 = mkF m 0 #[.val (.int x0)] [] := by first | (simp [entryFrame, mkF, argsToLocals, Value.category]; done) | rfl
def f14_v7 (p1 : Int32) : Nat → Int32 := (ownU (fun _ => 0) ((0 : Int32)).toNatClampNeg (nar .byte (p1.toInt8.toInt32)))
def f14_x0n (p1 : Int32) : Int32 := (1 : Int32)
def f14_x0c (p1 : Int32) : Nat → Int32 := (f14_v7 p1)
def Q14 (Z : State) (p1 : Int32) (h0 : Heap) (n0 : Nat) (v : Option Value) (h : Heap) (L : List Loc) : Prop := ∃ (r0 : Addr), v = some (.ref r0) ∧ Fr n0 L ∧ Keep h0 h [] ∧ h0.size ≤ r0 ∧ IAr Z h r0 .byte (f14_x0n p1) (f14_x0c p1)
set_option maxRecDepth 65536 in
set_option maxHeartbeats 40000000 in
theorem rm14 (l : Launch) (Z : State) (a0 : Array Value) (hw : ∀ d ∈ tables_1, d.before a0 Z = true) (ws : List Jvm.Cond) (p1 : Int32) (h0 : Heap) (n0 : Nat) (Z0 : n0 ≤ h0.size) :
    MetFree l (⟨"java/lang/StringLatin1", "toBytes", "(C)[B"⟩ : MethodName) (head1 (Jvm.Cond.code (⟨"java/lang/StringLatin1", "toBytes", "(C)[B"⟩ : MethodName) jdk_43_method_46_code 1 (some (.array .byte)) :: ws) ({ frames := 0, cells := 1, slots := 1, locals := 0 } : Room)) (fun a U => a = #[(.int p1)] ∧ Z.Warmed39 U.vm ∧ U.heap = h0) (fun _ _ _ _ _ => True) (fun _ U o U' => ∃ v L, o = .returned v ∧ Q14 Z p1 h0 n0 v U'.heap L ∧ FrameEnd U o U' L ({ frames := 0, cells := 1, slots := 1, locals := 0 } : Room).cells ({ frames := 0, cells := 1, slots := 1, locals := 0 } : Room).slots) := by
  refine MetFree.of_bodySF (plainFor_of_name pn_0) hisR ?_
  intro p e s m args below meth c s₁ Bd hml0 hP hK
  obtain ⟨rfl, hZ, hh⟩ := hP
  have hx := Bd.exec
  have hby := Bd.bytes
  have hml : c.maxLocals = 1 := hml0
  have hown : s.vm.findClass "java/lang/StringLatin1" = some m.cls := findClass_of_methodNamed Bd.named
  have hnm := (name_of_methodNamed Bd.named Bd.method).1
  have X0 : Stand p l e ({ frames := 0, cells := 1, slots := 1, locals := 0 } : Room) s m #[(.int p1)] below meth c s₁ [] 0 0 := Stand.of_body Bd
  have e0 : s₁.heap = h0 := by rw [← hh, Bd.state]; rfl
  have N0 := Fr.nil n0
  have pre0 : ∀ t, Steps p.tables e below (s₁.setTop (mkF m 0 #[.val (.int p1)] [])) t → Steps p.tables e below (s₁.setTop (entryFrame m #[(.int p1)] 1)) t := fun t k => castTop (ef_14 m p1) k
  obtain ⟨T2, h2, k2, X2, e2, E2, A2, st2⟩ := newP X0 hx hZ (hw _ (List.mem_of_getElem? (i := 8) rfl)) e0 (g := (mkF m 1 #[.val (.int p1)] [(.int (1 : Int32))])) rfl (hb hby d14_1) rfl (by decide) (cap := 1) (by decide) (by decide) (by decide) (by decide)
  obtain ⟨b2, g2⟩ : ∃ z, z = h0.size := ⟨_, rfl⟩
  rw [← g2] at A2 st2
  have g_b2 : n0 ≤ b2 := Nat.le_trans Z0 (Nat.le_of_eq g2.symm)
  have sz_b2 : h0.size ≤ b2 := Nat.le_trans (Keep.refl h0 []).1 (Nat.le_of_eq g2.symm)
  have c3 : n0 ≤ h2.size := Nat.le_trans Z0 E2.1
  have c4 : Keep h0 h2 [] := (Keep.refl h0 []).ext E2
  have c5 : IAr Z h2 b2 .byte (1 : Int32) (fun _ => 0) := IAr.new A2 (by decide) rfl
  obtain ⟨T6, h6, X6, e6, W6, V6, st6⟩ := sB X2 hx hZ e2 c5 (j := (0 : Int32)) ⟨by decide, by first | decide | assumption⟩ (g := (mkF m 7 #[.val (.int p1)] [(.int (p1.toInt8.toInt32)), (.int (0 : Int32)), (.ref b2), (.ref b2)])) rfl rfl (hb hby d14_7)
  have N6 := Fr.snoc X6 N0 g_b2
  have c7 : n0 ≤ h6.size := Nat.le_trans c3 (Keep.of_wr W6).1
  have c8 : Keep h0 h6 [] := c4.wr W6 (Or.inr sz_b2)
  have c9 : IAr Z h6 b2 .byte (1 : Int32) (f14_v7 p1) := V6
  have eq1 : (f14_x0n p1) = (1 : Int32) := rfl
  have eq2 : (f14_x0c p1) = (f14_v7 p1) := rfl
  obtain ⟨fs, hr, hrun, hended, hW, hsame⟩ := X6.leave (v := some (.ref b2)) (fun h => by rw [Bd.returns] at h; cases h)
  refine ⟨_, _, pre0 _ ?_, hrun, hended, _, _, rfl, ?_, ⟨_, rfl⟩, hW, hsame.mono (by decide) (by decide)⟩
  · show Steps p.tables e below (s₁.setTop (mkF m 0 #[.val (.int p1)] [])) _
    refine XS.iconst X0.here hx rfl (hb hby d14_0) ?_
    show Steps p.tables e below (s₁.setTop (mkF m 1 #[.val (.int p1)] [(.int (1 : Int32))])) _
    refine st2 _ ?_
    show Steps p.tables e below (T2.setTop (mkF m 3 #[.val (.int p1)] [(.ref b2)])) _
    refine XS.dup X2.here hx rfl (hb hby d14_3) rfl rfl ?_
    show Steps p.tables e below (T2.setTop (mkF m 4 #[.val (.int p1)] [(.ref b2), (.ref b2)])) _
    refine XS.iconst X2.here hx rfl (hb hby d14_4) ?_
    show Steps p.tables e below (T2.setTop (mkF m 5 #[.val (.int p1)] [(.int (0 : Int32)), (.ref b2), (.ref b2)])) _
    refine XS.iloadN X2.here hx rfl (hb hby d14_5) rfl ?_
    show Steps p.tables e below (T2.setTop (mkF m 6 #[.val (.int p1)] [(.int p1), (.int (0 : Int32)), (.ref b2), (.ref b2)])) _
    refine XS.i2b X2.here hx rfl (hb hby d14_6) rfl ?_
    show Steps p.tables e below (T2.setTop (mkF m 7 #[.val (.int p1)] [(.int (p1.toInt8.toInt32)), (.int (0 : Int32)), (.ref b2), (.ref b2)])) _
    refine st6 _ ?_
    show Steps p.tables e below (T6.setTop (mkF m 8 #[.val (.int p1)] [(.ref b2)])) _
    jvm_step X6.here [X6.here.top, hx, (hb hby d14_8), X6.method', Bd.returns, Value.isRef, FieldType.isReference]
    first | (intro acts; rw [hr _ acts rfl rfl rfl]) | rw [hr _ _ rfl rfl rfl]
    exact Steps.refl _
  · show Q14 Z p1 h0 n0 _ T6.heap _
    rw [e6]
    exact ⟨b2, rfl, N6, c8, sz_b2, (by rw [eq1, eq2]; exact c9)⟩
theorem pn_1 : plainName "java/lang/String" = true := by first | (simp [plainName, overriddenIn]; done) | decide +kernel
theorem d15_0 : decode jdk_42_method_151_code 0 = .ok (.aload_n 0, 1) := by decide +kernel
theorem d15_1 : decode jdk_42_method_151_code 1 = .ok (.invokespecial 1, 3) := by decide +kernel
theorem d15_4 : decode jdk_42_method_151_code 4 = .ok (.aload_n 0, 1) := by decide +kernel
theorem d15_5 : decode jdk_42_method_151_code 5 = .ok (.aload_n 1, 1) := by decide +kernel
theorem d15_6 : decode jdk_42_method_151_code 6 = .ok (.putfield 9, 3) := by decide +kernel
theorem d15_9 : decode jdk_42_method_151_code 9 = .ok (.aload_n 0, 1) := by decide +kernel
theorem d15_10 : decode jdk_42_method_151_code 10 = .ok (.iload_n 2, 1) := by decide +kernel
theorem d15_11 : decode jdk_42_method_151_code 11 = .ok (.putfield 15, 3) := by decide +kernel
theorem d15_14 : decode jdk_42_method_151_code 14 = .ok (.return_, 1) := by decide +kernel
theorem ef_15 (m : MethodId) (x0 : Addr) (x1 : Addr) (x2 : Int32) : entryFrame m #[(.ref x0), (.ref x1), (.int x2)] 3 = mkF m 0 #[.val (.ref x0), .val (.ref x1), .val (.int x2)] [] := by first | (simp [entryFrame, mkF, argsToLocals, Value.category]; done) | rfl
def f15_o1 (p3 : Int32) (w_coder_a1 : Int32) : Int32 := (nar .byte p3)
def Q15 (Z : State) (a1 : Addr) (a2 : Addr) (p3 : Int32) (w_coder_a1 : Int32) (h0 : Heap) (n0 : Nat) (v : Option Value) (h : Heap) (L : List Loc) : Prop := v = none ∧ Fr n0 L ∧ Keep h0 h [a1] ∧ Fld Z h a1 "java/lang/String" "value" "[B" (.ref a2) ∧ Fld Z h a1 "java/lang/String" "coder" "B" (.int (f15_o1 p3 w_coder_a1))
set_option maxRecDepth 65536 in
set_option maxHeartbeats 40000000 in
theorem rm15 (l : Launch) (Z : State) (a0 : Array Value) (hw : ∀ d ∈ tables_1, d.before a0 Z = true) (ws : List Jvm.Cond) (a1 : Addr) (a2 : Addr) (p3 : Int32) (w_coder_a1 : Int32) (h0 : Heap) (n0 : Nat) (Z0 : n0 ≤ h0.size) (E_a1 : Exa Z h0 a1 "java/lang/String") (g_a1 : n0 ≤ a1) (F_value_a1 : Fld Z h0 a1 "java/lang/String" "value" "[B" .null) (F_coder_a1 : Fld Z h0 a1 "java/lang/String" "coder" "B" (.int w_coder_a1)) :
    MetFree l (⟨"java/lang/String", "<init>", "([BB)V"⟩ : MethodName) (head1 (Jvm.Cond.code (⟨"java/lang/String", "<init>", "([BB)V"⟩ : MethodName) jdk_42_method_151_code 3 none :: ws) ({ frames := 1, cells := 0, slots := 0, locals := 12 } : Room)) (fun a U => a = #[(.ref a1), (.ref a2), (.int p3)] ∧ Z.Warmed39 U.vm ∧ U.heap = h0) (fun _ _ _ _ _ => True) (fun _ U o U' => ∃ v L, o = .returned v ∧ Q15 Z a1 a2 p3 w_coder_a1 h0 n0 v U'.heap L ∧ FrameEnd U o U' L ({ frames := 1, cells := 0, slots := 0, locals := 12 } : Room).cells ({ frames := 1, cells := 0, slots := 0, locals := 12 } : Room).slots) := by
  refine MetFree.of_bodySF (plainFor_of_name pn_1) hisR ?_
  intro p e s m args below meth c s₁ Bd hml0 hP hK
  obtain ⟨rfl, hZ, hh⟩ := hP
  have hx := Bd.exec
  have hby := Bd.bytes
  have hml : c.maxLocals = 3 := hml0
  have hown : s.vm.findClass "java/lang/String" = some m.cls := findClass_of_methodNamed Bd.named
  have hnm := (name_of_methodNamed Bd.named Bd.method).1
  have X0 : Stand p l e ({ frames := 1, cells := 0, slots := 0, locals := 12 } : Room) s m #[(.ref a1), (.ref a2), (.int p3)] below meth c s₁ [] 0 0 := Stand.of_body Bd
  have e0 : s₁.heap = h0 := by rw [← hh, Bd.state]; rfl
  have N0 := Fr.nil n0
  have pre0 : ∀ t, Steps p.tables e below (s₁.setTop (mkF m 0 #[.val (.ref a1), .val (.ref a2), .val (.int p3)] [])) t → Steps p.tables e below (s₁.setTop (entryFrame m #[(.ref a1), (.ref a2), (.int p3)] 3)) t := fun t k => castTop (ef_15 m a1 a2 p3) k
  obtain ⟨T4, X4, e4, st4⟩ := initO X0 hx hZ hown (hw _ (List.mem_of_getElem? (i := 81) rfl)) (hw _ (List.mem_of_getElem? (i := 29) rfl)) (hw _ (List.mem_of_getElem? (i := 30) rfl)) e0 (g := (mkF m 1 #[.val (.ref a1), .val (.ref a2), .val (.int p3)] [(.ref a1)])) rfl (by rw [hml]; rfl) rfl (hb hby d15_1) (by decide) (W := 0) (by show 2 * 0 + _ ≤ _; exact Nat.le_of_eq rfl) (by decide)
  obtain ⟨T5, h5, X5, e5, W5, st5⟩ := putF X4 hx hZ hown (host := "") (Or.inl (hw _ (List.mem_of_getElem? (i := 71) rfl))) Via.refl e4 F_value_a1 E_a1 (Or.inr ⟨(hw _ (List.mem_of_getElem? (i := 9) rfl)), rfl, hnm⟩) (hw _ (List.mem_of_getElem? (i := 7) rfl)) (ty := (.array .byte)) (by decide) rfl rfl (g := (mkF m 6 #[.val (.ref a1), .val (.ref a2), .val (.int p3)] [(.ref a2), (.ref a1)])) rfl rfl (hb hby d15_6)
  have N5 := Fr.snoc X5 N0 g_a1
  have c6 : n0 ≤ h5.size := Nat.le_trans Z0 (Keep.of_wr W5).1
  have c7 : Exa Z h5 a1 "java/lang/String" := E_a1.wr W5
  have c8 : Fld Z h5 a1 "java/lang/String" "value" "[B" (.ref a2) := F_value_a1.same W5
  have c9 : Fld Z h5 a1 "java/lang/String" "coder" "B" (.int w_coder_a1) := F_coder_a1.other W5 (Or.inr (slot_ne (Or.inr (hw _ (List.mem_of_getElem? (i := 10) rfl))) (Or.inr (hw _ (List.mem_of_getElem? (i := 9) rfl))) (by decide) (t := .byte) (t' := (.array .byte)) (by decide) (by decide)))
  have c10 : Keep h0 h5 [a1] := (Keep.refl h0 [a1]).wr W5 (Or.inl (List.mem_of_getElem? (i := 0) rfl))
  obtain ⟨T11, h11, X11, e11, W11, st11⟩ := putFN X5 hx hZ hown (hw _ (List.mem_of_getElem? (i := 93) rfl)) Via.refl e5 c9 c7 (Or.inr ⟨(hw _ (List.mem_of_getElem? (i := 10) rfl)), rfl, hnm⟩) (hw _ (List.mem_of_getElem? (i := 7) rfl)) (ty := .byte) (v' := (.int (nar .byte p3))) (by decide) rfl (fits_nar_byte _) (g := (mkF m 11 #[.val (.ref a1), .val (.ref a2), .val (.int p3)] [(.int p3), (.ref a1)])) rfl rfl (hb hby d15_11)
  have N11 := Fr.snoc X11 N5 g_a1
  have c12 : n0 ≤ h11.size := Nat.le_trans c6 (Keep.of_wr W11).1
  have c13 : Exa Z h11 a1 "java/lang/String" := c7.wr W11
  have c14 : Fld Z h11 a1 "java/lang/String" "value" "[B" (.ref a2) := c8.other W11 (Or.inr (slot_ne (Or.inr (hw _ (List.mem_of_getElem? (i := 9) rfl))) (Or.inr (hw _ (List.mem_of_getElem? (i := 10) rfl))) (by decide) (t := (.array .byte)) (t' := .byte) (by decide) (by decide)))
  have c15 : Fld Z h11 a1 "java/lang/String" "coder" "B" (.int (nar .byte p3)) := c9.same W11
  have c16 : Keep h0 h11 [a1] := c10.wr W11 (Or.inl (List.mem_of_getElem? (i := 0) rfl))
  have eq1 : (f15_o1 p3 w_coder_a1) = (nar .byte p3) := rfl
  obtain ⟨fs, hr, hrun, hended, hW, hsame⟩ := X11.leave (v := none) (fun _ => rfl)
  refine ⟨_, _, pre0 _ ?_, hrun, hended, _, _, rfl, ?_, ⟨_, rfl⟩, hW, hsame.mono (by decide) (by decide)⟩
  · show Steps p.tables e below (s₁.setTop (mkF m 0 #[.val (.ref a1), .val (.ref a2), .val (.int p3)] [])) _
    refine XS.aloadN X0.here hx rfl (hb hby d15_0) rfl rfl ?_
    show Steps p.tables e below (s₁.setTop (mkF m 1 #[.val (.ref a1), .val (.ref a2), .val (.int p3)] [(.ref a1)])) _
    refine st4 _ ?_
    show Steps p.tables e below (T4.setTop (mkF m 4 #[.val (.ref a1), .val (.ref a2), .val (.int p3)] [])) _
    refine XS.aloadN X4.here hx rfl (hb hby d15_4) rfl rfl ?_
    show Steps p.tables e below (T4.setTop (mkF m 5 #[.val (.ref a1), .val (.ref a2), .val (.int p3)] [(.ref a1)])) _
    refine XS.aloadN X4.here hx rfl (hb hby d15_5) rfl rfl ?_
    show Steps p.tables e below (T4.setTop (mkF m 6 #[.val (.ref a1), .val (.ref a2), .val (.int p3)] [(.ref a2), (.ref a1)])) _
    refine st5 _ ?_
    show Steps p.tables e below (T5.setTop (mkF m 9 #[.val (.ref a1), .val (.ref a2), .val (.int p3)] [])) _
    refine XS.aloadN X5.here hx rfl (hb hby d15_9) rfl rfl ?_
    show Steps p.tables e below (T5.setTop (mkF m 10 #[.val (.ref a1), .val (.ref a2), .val (.int p3)] [(.ref a1)])) _
    refine XS.iloadN X5.here hx rfl (hb hby d15_10) rfl ?_
    show Steps p.tables e below (T5.setTop (mkF m 11 #[.val (.ref a1), .val (.ref a2), .val (.int p3)] [(.int p3), (.ref a1)])) _
    refine st11 _ ?_
    show Steps p.tables e below (T11.setTop (mkF m 14 #[.val (.ref a1), .val (.ref a2), .val (.int p3)] [])) _
    exact X11.returnOut hx Bd.returns (hb hby d15_14) hr
  · show Q15 Z a1 a2 p3 w_coder_a1 h0 n0 _ T11.heap _
    rw [e11]
    exact ⟨rfl, N11, c16, c14, (by rw [eq1]; exact c15)⟩
theorem pd_0 : parseMethodDescriptor "(C)Z" = some ⟨[.char], some .boolean⟩ := by decide +kernel
theorem pd_1 : parseMethodDescriptor "(C)[B" = some ⟨[.char], some (.array .byte)⟩ := by decide +kernel
theorem pd_2 : parseMethodDescriptor "([BB)V" = some ⟨[(.array .byte), .byte], none⟩ := by decide +kernel
theorem d12_0 : decode jdk_42_method_139_code 0 = .ok (.getstatic 38, 3) := by decide +kernel
theorem d12_3 : decode jdk_42_method_139_code 3 = .ok (.ifCond .eq 23, 3) := by decide +kernel
theorem d12_6 : decode jdk_42_method_139_code 6 = .ok (.iload_n 0, 1) := by decide +kernel
theorem d12_7 : decode jdk_42_method_139_code 7 = .ok (.invokestatic 1015, 3) := by decide +kernel
theorem d12_10 : decode jdk_42_method_139_code 10 = .ok (.ifCond .eq 16, 3) := by decide +kernel
theorem d12_13 : decode jdk_42_method_139_code 13 = .ok (.new 10, 3) := by decide +kernel
theorem d12_16 : decode jdk_42_method_139_code 16 = .ok (.dup, 1) := by decide +kernel
theorem d12_17 : decode jdk_42_method_139_code 17 = .ok (.iload_n 0, 1) := by decide +kernel
theorem d12_18 : decode jdk_42_method_139_code 18 = .ok (.invokestatic 1018, 3) := by decide +kernel
theorem d12_21 : decode jdk_42_method_139_code 21 = .ok (.iconst 0, 1) := by decide +kernel
theorem d12_22 : decode jdk_42_method_139_code 22 = .ok (.invokespecial 209, 3) := by decide +kernel
theorem d12_25 : decode jdk_42_method_139_code 25 = .ok (.areturn, 1) := by decide +kernel
theorem ef_12 (m : MethodId) (x0 : Int32) : entryFrame m #[(.int x0)] 1 = mkF m 0 #[.val (.int x0)] [] := by first | (simp [entryFrame, mkF, argsToLocals, Value.category]; done) | rfl
def f12_x1n (p1 : Int32) (w_CS : Int32) : Int32 := (f14_x0n p1)
def f12_x1c (p1 : Int32) (w_CS : Int32) : Nat → Int32 := (f14_x0c p1)
def Q12 (Z : State) (p1 : Int32) (w_CS : Int32) (h0 : Heap) (n0 : Nat) (v : Option Value) (h : Heap) (L : List Loc) : Prop := ∃ (r0 : Addr) (r1 : Addr), v = some (.ref r0) ∧ Fr n0 L ∧ Keep h0 h [] ∧ Exa Z h r0 "java/lang/String" ∧ IAr Z h r1 .byte (f12_x1n p1 w_CS) (f12_x1c p1 w_CS) ∧ Fld Z h r0 "java/lang/String" "value" "[B" (.ref r1)
set_option maxRecDepth 65536 in
set_option maxHeartbeats 40000000 in
theorem rm12 (l : Launch) (Z : State) (a0 : Array Value) (hw : ∀ d ∈ tables_1, d.before a0 Z = true) (ws : List Jvm.Cond) (p1 : Int32) (w_CS : Int32) (h0 : Heap) (n0 : Nat) (Z0 : n0 ≤ h0.size) (S_COMPACT_STRINGS : Sta Z h0 "java/lang/String" "COMPACT_STRINGS" "Z" (.int w_CS)) (hcs : ¬ w_CS = 0) (hle : ¬ (255 : Int32) < p1) :
    MetFree l (⟨"java/lang/String", "valueOf", "(C)Ljava/lang/String;"⟩ : MethodName) (head1 (Jvm.Cond.code (⟨"java/lang/String", "valueOf", "(C)Ljava/lang/String;"⟩ : MethodName) jdk_42_method_139_code 1 (some (.object "java/lang/String")) :: ws) ({ frames := 2, cells := 2, slots := 5, locals := 27 } : Room)) (fun a U => a = #[(.int p1)] ∧ Z.Warmed39 U.vm ∧ U.heap = h0) (fun _ _ _ _ _ => True) (fun _ U o U' => ∃ v L, o = .returned v ∧ Q12 Z p1 w_CS h0 n0 v U'.heap L ∧ FrameEnd U o U' L ({ frames := 2, cells := 2, slots := 5, locals := 27 } : Room).cells ({ frames := 2, cells := 2, slots := 5, locals := 27 } : Room).slots) := by
  refine MetFree.of_bodySF (plainFor_of_name pn_1) hisR ?_
  intro p e s m args below meth c s₁ Bd hml0 hP hK
  obtain ⟨rfl, hZ, hh⟩ := hP
  have hx := Bd.exec
  have hby := Bd.bytes
  have hml : c.maxLocals = 1 := hml0
  have hown : s.vm.findClass "java/lang/String" = some m.cls := findClass_of_methodNamed Bd.named
  have hnm := (name_of_methodNamed Bd.named Bd.method).1
  have X0 : Stand p l e ({ frames := 2, cells := 2, slots := 5, locals := 27 } : Room) s m #[(.int p1)] below meth c s₁ [] 0 0 := Stand.of_body Bd
  have e0 : s₁.heap = h0 := by rw [← hh, Bd.state]; rfl
  have N0 := Fr.nil n0
  have pre0 : ∀ t, Steps p.tables e below (s₁.setTop (mkF m 0 #[.val (.int p1)] [])) t → Steps p.tables e below (s₁.setTop (entryFrame m #[(.int p1)] 1)) t := fun t k => castTop (ef_12 m p1) k
  obtain ⟨T2, X2, e2, st2⟩ := getS2 X0 hx hZ hown (host := "") (Or.inl (hw _ (List.mem_of_getElem? (i := 82) rfl))) Via.refl e0 S_COMPACT_STRINGS (g := (mkF m 0 #[.val (.int p1)] [])) rfl (hb hby d12_0)
  obtain ⟨_, _, ⟨T3, L3, k3, n3⟩, -, X3, ⟨Lc3, hQ3, l3, y3, z3⟩, st3⟩ := Jvm.LawKit.callS X2 hx (y := (⟨"java/lang/StringLatin1", "canEncode", "(C)Z"⟩ : MethodName)) hown (mvT hZ (hw _ (List.mem_of_getElem? (i := 97) rfl))) (mvT hZ (hw _ (List.mem_of_getElem? (i := 98) rfl))) (mvT hZ (hw _ (List.mem_of_getElem? (i := 99) rfl))) (mvT hZ (hw _ (List.mem_of_getElem? (i := 100) rfl))) (by decide) (backOf (W := 0) (rm13 l Z a0 hw [] p1 h0 n0 Z0 ) hZ (hw _ (List.mem_of_getElem? (i := 100) rfl)) (hw _ (List.mem_of_getElem? (i := 99) rfl)) (by decide) (by decide)) (g := (mkF m 7 #[.val (.int p1)] [(.int p1)])) rfl (by rw [hml]; rfl) (argsL := [(.int p1)]) (rest := []) (lenOf pd_0 rfl) rfl (by show 2 * 0 + _ ≤ _; exact Nat.le_of_eq rfl) (hb hby d12_7) (fun _ _ => ⟨rfl, e2, (by decide : 0 + 0 ≤ _), (by decide : 0 + 0 ≤ _)⟩)
  dsimp only [Pt.U, Pt.locs, Pt.cells, Pt.slots] at X3 l3 y3 z3 st3 hQ3
  subst l3 y3 z3
  obtain ⟨rfl, N3q, e3⟩ := hQ3
  have N3 := Fr.app N0 N3q
  obtain ⟨T4, h4, X4, e4, E4, A4, D4, -, st4⟩ := newO X3 hx hZ hown (hw _ (List.mem_of_getElem? (i := 101) rfl)) (hw _ (List.mem_of_getElem? (i := 7) rfl)) (hw _ (List.mem_of_getElem? (i := 6) rfl)) e3 (g := (mkF m 13 #[.val (.int p1)] [])) rfl (hb hby d12_13) (by decide) (by decide)
  obtain ⟨b4, g4⟩ : ∃ z, z = h0.size := ⟨_, rfl⟩
  rw [← g4] at A4 D4 st4
  have g_b4 : n0 ≤ b4 := Nat.le_trans Z0 (Nat.le_of_eq g4.symm)
  have sz_b4 : h0.size ≤ b4 := Nat.le_trans (Keep.refl h0 []).1 (Nat.le_of_eq g4.symm)
  have c5 : n0 ≤ h4.size := Nat.le_trans Z0 E4.1
  have c6 : Sta Z h4 "java/lang/String" "COMPACT_STRINGS" "Z" (.int w_CS) := S_COMPACT_STRINGS.ext E4
  have c7 : Keep h0 h4 [] := (Keep.refl h0 []).ext E4
  have c8 : Fld Z h4 b4 "java/lang/String" "value" "[B" .null := D4 (Or.inr (hw _ (List.mem_of_getElem? (i := 9) rfl))) (ty := (.array .byte)) (by decide)
  have c9 : Fld Z h4 b4 "java/lang/String" "coder" "B" (.int (0 : Int32)) := D4 (Or.inr (hw _ (List.mem_of_getElem? (i := 10) rfl))) (ty := .byte) (by decide)
  obtain ⟨_, _, ⟨T10, L10, k10, n10⟩, -, X10, ⟨Lc10, hQ10, l10, y10, z10⟩, st10⟩ := Jvm.LawKit.callS X4 hx (y := (⟨"java/lang/StringLatin1", "toBytes", "(C)[B"⟩ : MethodName)) hown (mvT hZ (hw _ (List.mem_of_getElem? (i := 102) rfl))) (mvT hZ (hw _ (List.mem_of_getElem? (i := 103) rfl))) (mvT hZ (hw _ (List.mem_of_getElem? (i := 99) rfl))) (mvT hZ (hw _ (List.mem_of_getElem? (i := 104) rfl))) (by decide) (backOf (W := 2) (rm14 l Z a0 hw [] p1 h4 n0 c5 ) hZ (hw _ (List.mem_of_getElem? (i := 104) rfl)) (hw _ (List.mem_of_getElem? (i := 99) rfl)) (by decide) (by decide)) (g := (mkF m 18 #[.val (.int p1)] [(.int p1), (.ref b4), (.ref b4)])) rfl (by rw [hml]; rfl) (argsL := [(.int p1)]) (rest := [(.ref b4), (.ref b4)]) (lenOf pd_1 rfl) rfl (by show 2 * 0 + _ ≤ _; exact Nat.le_of_eq rfl) (hb hby d12_18) (fun _ _ => ⟨rfl, e4, (by decide : 1 + 1 ≤ _), (by decide : 4 + 1 ≤ _)⟩)
  dsimp only [Pt.U, Pt.locs, Pt.cells, Pt.slots] at X10 l10 y10 z10 st10 hQ10
  subst l10 y10 z10
  obtain ⟨r10_0, rfl, N10q, K10, zz10_0, va10_0⟩ := hQ10
  have N10 := Fr.app N3 N10q
  have ne_b4_r10_0 : b4 ≠ r10_0 := Nat.ne_of_lt (Nat.lt_of_lt_of_le A4.lt zz10_0)
  have g_r10_0 : n0 ≤ r10_0 := Nat.le_trans c5 zz10_0
  have sz_r10_0 : h0.size ≤ r10_0 := Nat.le_trans c7.1 zz10_0
  have c11 : n0 ≤ T10.heap.size := Nat.le_trans c5 K10.1
  have c12 : Sta Z T10.heap "java/lang/String" "COMPACT_STRINGS" "Z" (.int w_CS) := own_staK0 c6 K10
  have c13 : Keep h0 T10.heap [] := c7.trans K10 all0
  have c14 : Exa Z T10.heap b4 "java/lang/String" := A4.keep K10
  have c15 : Fld Z T10.heap b4 "java/lang/String" "value" "[B" .null := c8.keep K10 nin0
  have c16 : Fld Z T10.heap b4 "java/lang/String" "coder" "B" (.int (0 : Int32)) := c9.keep K10 nin0
  obtain ⟨_, _, ⟨T17, L17, k17, n17⟩, -, X17, ⟨Lc17, hQ17, l17, y17, z17⟩, st17⟩ := X10.specialBack hx (y := (⟨"java/lang/String", "<init>", "([BB)V"⟩ : MethodName)) rfl hown (mvT hZ (hw _ (List.mem_of_getElem? (i := 105) rfl))) (mvT hZ (hw _ (List.mem_of_getElem? (i := 106) rfl))) (mvT hZ (hw _ (List.mem_of_getElem? (i := 107) rfl))) (by decide) (backOf (W := 1) (rm15 l Z a0 hw [] b4 r10_0 (0 : Int32) (0 : Int32) T10.heap n0 c11 c14 g_b4 c15 c16) hZ (hw _ (List.mem_of_getElem? (i := 107) rfl)) (hw _ (List.mem_of_getElem? (i := 6) rfl)) (by decide) (by decide)) (g := (mkF m 22 #[.val (.int p1)] [(.int (0 : Int32)), (.ref r10_0), (.ref b4), (.ref b4)])) rfl (by rw [hml]; rfl) (Steps.refl _) (a := b4) (argsL := [(.ref r10_0), (.int (0 : Int32))]) (rest := [(.ref b4)]) (lenOf pd_2 rfl) rfl (by show 2 * 0 + _ ≤ _; exact Nat.le_of_eq rfl) (hb hby d12_22) (fun _ _ => ⟨rfl, rfl, (by decide : 2 + 0 ≤ _), (by decide : 5 + 0 ≤ _)⟩)
  dsimp only [Pt.U, Pt.locs, Pt.cells, Pt.slots] at X17 l17 y17 z17 st17 hQ17
  subst l17 y17 z17
  obtain ⟨rfl, N17q, K17, o17_0, o17_1⟩ := hQ17
  have N17 := Fr.app N10 N17q
  have c18 : n0 ≤ T17.heap.size := Nat.le_trans c11 K17.1
  have c19 : Sta Z T17.heap "java/lang/String" "COMPACT_STRINGS" "Z" (.int w_CS) := own_staK c12 K17 (own_nsS (Exa.nostat c14) own_ns0)
  have c20 : Keep h0 T17.heap [] := c13.trans K17 (allS (Or.inr sz_b4) all0)
  have c21 : Exa Z T17.heap b4 "java/lang/String" := c14.keep K17
  have c22 : Fld Z T17.heap b4 "java/lang/String" "value" "[B" (.ref r10_0) := o17_0
  have c23 : Fld Z T17.heap b4 "java/lang/String" "coder" "B" (.int (f15_o1 (0 : Int32) (0 : Int32))) := o17_1
  have c24 : IAr Z T17.heap r10_0 .byte (f14_x0n p1) (f14_x0c p1) := va10_0.keep K17 (ninS (Ne.symm ne_b4_r10_0) nin0)
  have eq1 : (f12_x1n p1 w_CS) = (f14_x0n p1) := rfl
  have eq2 : (f12_x1c p1 w_CS) = (f14_x0c p1) := rfl
  obtain ⟨fs, hr, hrun, hended, hW, hsame⟩ := X17.leave (v := some (.ref b4)) (fun h => by rw [Bd.returns] at h; cases h)
  refine ⟨_, _, pre0 _ ?_, hrun, hended, _, _, rfl, ?_, ⟨_, rfl⟩, hW, hsame.mono (by decide) (by decide)⟩
  · show Steps p.tables e below (s₁.setTop (mkF m 0 #[.val (.int p1)] [])) _
    refine st2 _ ?_
    show Steps p.tables e below (T2.setTop (mkF m 3 #[.val (.int p1)] [(.int w_CS)])) _
    refine XS.ifNo X2.here hx rfl (hb hby d12_3) rfl ((if0 _ _).trans (feq (hcs : ¬ (w_CS = (0 : Int32)))).1) ?_
    show Steps p.tables e below (T2.setTop (mkF m 6 #[.val (.int p1)] [])) _
    refine XS.iloadN X2.here hx rfl (hb hby d12_6) rfl ?_
    show Steps p.tables e below (T2.setTop (mkF m 7 #[.val (.int p1)] [(.int p1)])) _
    refine st3 _ ?_
    show Steps p.tables e below (T3.setTop (mkF m 10 #[.val (.int p1)] [(.int (f13 p1))])) _
    refine XS.ifNo X3.here hx rfl (hb hby d12_10) rfl ((if0 _ _).trans (feq (by unfold f13; rw [if_neg hle]; decide : ¬ ((f13 p1) = (0 : Int32)))).1) ?_
    show Steps p.tables e below (T3.setTop (mkF m 13 #[.val (.int p1)] [])) _
    refine st4 _ ?_
    show Steps p.tables e below (T4.setTop (mkF m 16 #[.val (.int p1)] [(.ref b4)])) _
    refine XS.dup X4.here hx rfl (hb hby d12_16) rfl rfl ?_
    show Steps p.tables e below (T4.setTop (mkF m 17 #[.val (.int p1)] [(.ref b4), (.ref b4)])) _
    refine XS.iloadN X4.here hx rfl (hb hby d12_17) rfl ?_
    show Steps p.tables e below (T4.setTop (mkF m 18 #[.val (.int p1)] [(.int p1), (.ref b4), (.ref b4)])) _
    refine st10 _ ?_
    show Steps p.tables e below (T10.setTop (mkF m 21 #[.val (.int p1)] [(.ref r10_0), (.ref b4), (.ref b4)])) _
    refine XS.iconst X10.here hx rfl (hb hby d12_21) ?_
    show Steps p.tables e below (T10.setTop (mkF m 22 #[.val (.int p1)] [(.int (0 : Int32)), (.ref r10_0), (.ref b4), (.ref b4)])) _
    refine st17.trans ?_
    show Steps p.tables e below (T17.setTop (mkF m 25 #[.val (.int p1)] [(.ref b4)])) _
    jvm_step X17.here [X17.here.top, hx, (hb hby d12_25), X17.method', Bd.returns, Value.isRef, FieldType.isReference]
    first | (intro acts; rw [hr _ acts rfl rfl rfl]) | rw [hr _ _ rfl rfl rfl]
    exact Steps.refl _
  · show Q12 Z p1 w_CS h0 n0 _ T17.heap _
    exact ⟨b4, r10_0, rfl, N17, c20, c21, (by rw [eq1, eq2]; exact c24), c22⟩
theorem pn_2 : plainName "java/lang/StringUTF16" = true := by first | (simp [plainName, overriddenIn]; done) | decide +kernel
theorem d11_0 : decode jdk_52_method_15_code 0 = .ok (.iload_n 1, 1) := by decide +kernel
theorem d11_1 : decode jdk_52_method_15_code 1 = .ok (.aload_n 0, 1) := by decide +kernel
theorem d11_2 : decode jdk_52_method_15_code 2 = .ok (.arraylength, 1) := by decide +kernel
theorem d11_3 : decode jdk_52_method_15_code 3 = .ok (.isub, 1) := by decide +kernel
theorem d11_4 : decode jdk_52_method_15_code 4 = .ok (.bipush 31, 2) := by decide +kernel
theorem d11_6 : decode jdk_52_method_15_code 6 = .ok (.iushr, 1) := by decide +kernel
theorem d11_7 : decode jdk_52_method_15_code 7 = .ok (.i2b, 1) := by decide +kernel
theorem d11_8 : decode jdk_52_method_15_code 8 = .ok (.ireturn, 1) := by decide +kernel
theorem ef_11 (m : MethodId) (x0 : Addr) (x1 : Int32) : entryFrame m #[(.ref x0), (.int x1)] 2 = mkF m 0 #[.val (.ref x0), .val (.int x1)] [] := by first | (simp [entryFrame, mkF, argsToLocals, Value.category]; done) | rfl
def f11 (p2 : Int32) (z_a1 : Int32) (c_a1 : Nat → Int32) : Int32 := (nar .byte ((((p2 - z_a1).toUInt32 >>> ((31 : Int32) &&& 31).toUInt32).toInt32).toInt8.toInt32))
def Q11 (Z : State) (a1 : Addr) (p2 : Int32) (z_a1 : Int32) (c_a1 : Nat → Int32) (h0 : Heap) (n0 : Nat) (v : Option Value) (h : Heap) (L : List Loc) : Prop := v = some (.int (f11 p2 z_a1 c_a1)) ∧ Fr n0 L ∧ h = h0
set_option maxRecDepth 65536 in
set_option maxHeartbeats 40000000 in
theorem rm11 (l : Launch) (Z : State) (a0 : Array Value) (hw : ∀ d ∈ tables_1, d.before a0 Z = true) (ws : List Jvm.Cond) (a1 : Addr) (p2 : Int32) (z_a1 : Int32) (c_a1 : Nat → Int32) (h0 : Heap) (n0 : Nat) (Z0 : n0 ≤ h0.size) (V_a1 : IAr Z h0 a1 .byte z_a1 c_a1) :
    MetFree l (⟨"java/lang/StringUTF16", "coderFromArrayLen", "([BI)B"⟩ : MethodName) (head1 (Jvm.Cond.code (⟨"java/lang/StringUTF16", "coderFromArrayLen", "([BI)B"⟩ : MethodName) jdk_52_method_15_code 2 (some .byte) :: ws) ({ frames := 0, cells := 0, slots := 0, locals := 0 } : Room)) (fun a U => a = #[(.ref a1), (.int p2)] ∧ Z.Warmed39 U.vm ∧ U.heap = h0) (fun _ _ _ _ _ => True) (fun _ U o U' => ∃ v L, o = .returned v ∧ Q11 Z a1 p2 z_a1 c_a1 h0 n0 v U'.heap L ∧ FrameEnd U o U' L ({ frames := 0, cells := 0, slots := 0, locals := 0 } : Room).cells ({ frames := 0, cells := 0, slots := 0, locals := 0 } : Room).slots) := by
  refine MetFree.of_bodySF (plainFor_of_name pn_2) hisR ?_
  intro p e s m args below meth c s₁ Bd hml0 hP hK
  obtain ⟨rfl, hZ, hh⟩ := hP
  have hx := Bd.exec
  have hby := Bd.bytes
  have hml : c.maxLocals = 2 := hml0
  have hown : s.vm.findClass "java/lang/StringUTF16" = some m.cls := findClass_of_methodNamed Bd.named
  have hnm := (name_of_methodNamed Bd.named Bd.method).1
  have X0 : Stand p l e ({ frames := 0, cells := 0, slots := 0, locals := 0 } : Room) s m #[(.ref a1), (.int p2)] below meth c s₁ [] 0 0 := Stand.of_body Bd
  have e0 : s₁.heap = h0 := by rw [← hh, Bd.state]; rfl
  have N0 := Fr.nil n0
  have pre0 : ∀ t, Steps p.tables e below (s₁.setTop (mkF m 0 #[.val (.ref a1), .val (.int p2)] [])) t → Steps p.tables e below (s₁.setTop (entryFrame m #[(.ref a1), (.int p2)] 2)) t := fun t k => castTop (ef_11 m a1 p2) k
  have eq1 : (f11 p2 z_a1 c_a1) = (nar .byte ((((p2 - z_a1).toUInt32 >>> ((31 : Int32) &&& 31).toUInt32).toInt32).toInt8.toInt32)) := rfl
  obtain ⟨fs, hr, hrun, hended, hW, hsame⟩ := X0.leave (v := some (.int (nar .byte ((((p2 - z_a1).toUInt32 >>> ((31 : Int32) &&& 31).toUInt32).toInt32).toInt8.toInt32)))) (fun h => by rw [Bd.returns] at h; cases h)
  refine ⟨_, _, pre0 _ ?_, hrun, hended, _, _, rfl, ?_, ⟨_, rfl⟩, hW, hsame.mono (by decide) (by decide)⟩
  · show Steps p.tables e below (s₁.setTop (mkF m 0 #[.val (.ref a1), .val (.int p2)] [])) _
    refine XS.iloadN X0.here hx rfl (hb hby d11_0) rfl ?_
    show Steps p.tables e below (s₁.setTop (mkF m 1 #[.val (.ref a1), .val (.int p2)] [(.int p2)])) _
    refine XS.aloadN X0.here hx rfl (hb hby d11_1) rfl rfl ?_
    show Steps p.tables e below (s₁.setTop (mkF m 2 #[.val (.ref a1), .val (.int p2)] [(.ref a1), (.int p2)])) _
    refine alen X0 hx hZ e0 V_a1 (g := (mkF m 2 #[.val (.ref a1), .val (.int p2)] [(.ref a1), (.int p2)])) rfl rfl (hb hby d11_2) ?_
    show Steps p.tables e below (s₁.setTop (mkF m 3 #[.val (.ref a1), .val (.int p2)] [(.int z_a1), (.int p2)])) _
    refine XS.isub X0.here hx rfl (hb hby d11_3) rfl ?_
    show Steps p.tables e below (s₁.setTop (mkF m 4 #[.val (.ref a1), .val (.int p2)] [(.int (p2 - z_a1))])) _
    refine XS.bipush X0.here hx rfl (hb hby d11_4) ?_
    show Steps p.tables e below (s₁.setTop (mkF m 6 #[.val (.ref a1), .val (.int p2)] [(.int (31 : Int32)), (.int (p2 - z_a1))])) _
    refine XS.iushr X0.here hx rfl (hb hby d11_6) rfl ?_
    show Steps p.tables e below (s₁.setTop (mkF m 7 #[.val (.ref a1), .val (.int p2)] [(.int (((p2 - z_a1).toUInt32 >>> ((31 : Int32) &&& 31).toUInt32).toInt32))])) _
    refine XS.i2b X0.here hx rfl (hb hby d11_7) rfl ?_
    show Steps p.tables e below (s₁.setTop (mkF m 8 #[.val (.ref a1), .val (.int p2)] [(.int ((((p2 - z_a1).toUInt32 >>> ((31 : Int32) &&& 31).toUInt32).toInt32).toInt8.toInt32))])) _
    exact retN X0 hx (t := .byte) Bd.returns (by simp) (hb hby d11_8) hr
  · show Q11 Z a1 p2 z_a1 c_a1 h0 n0 _ s₁.heap _
    rw [e0]
    exact ⟨by rw [eq1], N0, rfl⟩
theorem d10_0 : decode jdk_52_method_21_code 0 = .ok (.iconst 0, 1) := by decide +kernel
theorem d10_1 : decode jdk_52_method_21_code 1 = .ok (.istore 5, 2) := by decide +kernel
theorem d10_3 : decode jdk_52_method_21_code 3 = .ok (.iload 5, 2) := by decide +kernel
theorem d10_5 : decode jdk_52_method_21_code 5 = .ok (.iload 4, 2) := by decide +kernel
theorem d10_7 : decode jdk_52_method_21_code 7 = .ok (.if_icmp .ge 37, 3) := by decide +kernel
theorem d10_10 : decode jdk_52_method_21_code 10 = .ok (.aload_n 0, 1) := by decide +kernel
theorem d10_11 : decode jdk_52_method_21_code 11 = .ok (.iload_n 1, 1) := by decide +kernel
theorem d10_12 : decode jdk_52_method_21_code 12 = .ok (.caload, 1) := by decide +kernel
theorem d10_13 : decode jdk_52_method_21_code 13 = .ok (.istore 6, 2) := by decide +kernel
theorem d10_15 : decode jdk_52_method_21_code 15 = .ok (.iload 6, 2) := by decide +kernel
theorem d10_17 : decode jdk_52_method_21_code 17 = .ok (.sipush 255, 3) := by decide +kernel
theorem d10_20 : decode jdk_52_method_21_code 20 = .ok (.if_icmp .le 6, 3) := by decide +kernel
theorem d10_26 : decode jdk_52_method_21_code 26 = .ok (.aload_n 2, 1) := by decide +kernel
theorem d10_27 : decode jdk_52_method_21_code 27 = .ok (.iload_n 3, 1) := by decide +kernel
theorem d10_28 : decode jdk_52_method_21_code 28 = .ok (.iload 6, 2) := by decide +kernel
theorem d10_30 : decode jdk_52_method_21_code 30 = .ok (.i2b, 1) := by decide +kernel
theorem d10_31 : decode jdk_52_method_21_code 31 = .ok (.bastore, 1) := by decide +kernel
theorem d10_32 : decode jdk_52_method_21_code 32 = .ok (.iinc 1 1, 3) := by decide +kernel
theorem d10_35 : decode jdk_52_method_21_code 35 = .ok (.iinc 3 1, 3) := by decide +kernel
theorem d10_38 : decode jdk_52_method_21_code 38 = .ok (.iinc 5 1, 3) := by decide +kernel
theorem d10_41 : decode jdk_52_method_21_code 41 = .ok (.goto (-38), 3) := by decide +kernel
theorem d10_44 : decode jdk_52_method_21_code 44 = .ok (.iload 4, 2) := by decide +kernel
theorem d10_46 : decode jdk_52_method_21_code 46 = .ok (.ireturn, 1) := by decide +kernel
theorem ef_10 (m : MethodId) (x0 : Addr) (x1 : Int32) (x2 : Addr) (x3 : Int32) (x4 : Int32) : entryFrame m #[(.ref x0), (.int x1), (.ref x2), (.int x3), (.int x4)] 7 = mkF m 0 #[.val (.ref x0), .val (.int x1), .val (.ref x2), .val (.int x3), .val (.int x4), .unset, .unset] [] := by first | (simp [entryFrame, mkF, argsToLocals, Value.category]; done) | rfl
def g10_3 (p2 : Int32) (p4 : Int32) (p5 : Int32) (z_a1 : Int32) (c_a1 : Nat → Int32) (z_a3 : Int32) (c_a3 : Nat → Int32) : Nat → Int32 → Int32 → Int32 → (Nat → Int32) → Int32
  | 0, _, _, _, _ => 0
  | k + 1, i1, i3, i5, y3 => (if i5 < p5 then (g10_3 p2 p4 p5 z_a1 c_a1 z_a3 c_a3 k (i1 + (1 : Int32)) (i3 + (1 : Int32)) (i5 + (1 : Int32)) (ownU y3 (i3).toNatClampNeg (nar .byte ((c_a1 (i1).toNatClampNeg).toInt8.toInt32)))) else p5)
def f10 (p2 : Int32) (p4 : Int32) (p5 : Int32) (z_a1 : Int32) (c_a1 : Nat → Int32) (z_a3 : Int32) (c_a3 : Nat → Int32) : Int32 := (g10_3 p2 p4 p5 z_a1 c_a1 z_a3 c_a3 (4) p2 p4 (0 : Int32) c_a3)
def g10_3_1 (p2 : Int32) (p4 : Int32) (p5 : Int32) (z_a1 : Int32) (c_a1 : Nat → Int32) (z_a3 : Int32) (c_a3 : Nat → Int32) : Nat → Int32 → Int32 → Int32 → (Nat → Int32) → Nat → Int32
  | 0, _, _, _, _ => fun _ => 0
  | k + 1, i1, i3, i5, y3 => (if i5 < p5 then (g10_3_1 p2 p4 p5 z_a1 c_a1 z_a3 c_a3 k (i1 + (1 : Int32)) (i3 + (1 : Int32)) (i5 + (1 : Int32)) (ownU y3 (i3).toNatClampNeg (nar .byte ((c_a1 (i1).toNatClampNeg).toInt8.toInt32)))) else y3)
def f10_o0 (p2 : Int32) (p4 : Int32) (p5 : Int32) (z_a1 : Int32) (c_a1 : Nat → Int32) (z_a3 : Int32) (c_a3 : Nat → Int32) : Nat → Int32 := (g10_3_1 p2 p4 p5 z_a1 c_a1 z_a3 c_a3 (4) p2 p4 (0 : Int32) c_a3)
def Q10 (Z : State) (a1 : Addr) (p2 : Int32) (a3 : Addr) (p4 : Int32) (p5 : Int32) (z_a1 : Int32) (c_a1 : Nat → Int32) (z_a3 : Int32) (c_a3 : Nat → Int32) (h0 : Heap) (n0 : Nat) (v : Option Value) (h : Heap) (L : List Loc) : Prop := v = some (.int (f10 p2 p4 p5 z_a1 c_a1 z_a3 c_a3)) ∧ Fr n0 L ∧ Keep h0 h [a3] ∧ IAr Z h a3 .byte z_a3 (f10_o0 p2 p4 p5 z_a1 c_a1 z_a3 c_a3)
set_option maxRecDepth 65536 in
set_option maxHeartbeats 40000000 in
theorem rm10 (l : Launch) (Z : State) (a0 : Array Value) (hw : ∀ d ∈ tables_1, d.before a0 Z = true) (ws : List Jvm.Cond) (a1 : Addr) (p2 : Int32) (a3 : Addr) (p4 : Int32) (p5 : Int32) (z_a1 : Int32) (c_a1 : Nat → Int32) (z_a3 : Int32) (c_a3 : Nat → Int32) (h0 : Heap) (n0 : Nat) (Z0 : n0 ≤ h0.size) (V_a1 : IAr Z h0 a1 .char z_a1 c_a1) (V_a3 : IAr Z h0 a3 .byte z_a3 c_a3) (g_a3 : n0 ≤ a3) (ne_a1_a3 : a1 ≠ a3) (kz0 : p2 = 0) (kz4 : p4 = 0) (kzl : 1 ≤ p5.toInt ∧ p5.toInt ≤ 3) (hz : z_a1 = p5) (hz3 : z_a3 = p5) (hch : ∀ i, 0 ≤ (c_a1 i).toInt ∧ (c_a1 i).toInt < 256) :
    MetFree l (⟨"java/lang/StringUTF16", "compress", "([CI[BII)I"⟩ : MethodName) (head1 (Jvm.Cond.code (⟨"java/lang/StringUTF16", "compress", "([CI[BII)I"⟩ : MethodName) jdk_52_method_21_code 7 (some .int) :: ws) ({ frames := 0, cells := 0, slots := 0, locals := 0 } : Room)) (fun a U => a = #[(.ref a1), (.int p2), (.ref a3), (.int p4), (.int p5)] ∧ Z.Warmed39 U.vm ∧ U.heap = h0) (fun _ _ _ _ _ => True) (fun _ U o U' => ∃ v L, o = .returned v ∧ Q10 Z a1 p2 a3 p4 p5 z_a1 c_a1 z_a3 c_a3 h0 n0 v U'.heap L ∧ FrameEnd U o U' L ({ frames := 0, cells := 0, slots := 0, locals := 0 } : Room).cells ({ frames := 0, cells := 0, slots := 0, locals := 0 } : Room).slots) := by
  refine MetFree.of_bodySF (plainFor_of_name pn_2) hisR ?_
  intro p e s m args below meth c s₁ Bd hml0 hP hK
  obtain ⟨rfl, hZ, hh⟩ := hP
  have hx := Bd.exec
  have hby := Bd.bytes
  have hml : c.maxLocals = 7 := hml0
  have hown : s.vm.findClass "java/lang/StringUTF16" = some m.cls := findClass_of_methodNamed Bd.named
  have hnm := (name_of_methodNamed Bd.named Bd.method).1
  have X0 : Stand p l e ({ frames := 0, cells := 0, slots := 0, locals := 0 } : Room) s m #[(.ref a1), (.int p2), (.ref a3), (.int p4), (.int p5)] below meth c s₁ [] 0 0 := Stand.of_body Bd
  have e0 : s₁.heap = h0 := by rw [← hh, Bd.state]; rfl
  have N0 := Fr.nil n0
  have pre0 : ∀ t, Steps p.tables e below (s₁.setTop (mkF m 0 #[.val (.ref a1), .val (.int p2), .val (.ref a3), .val (.int p4), .val (.int p5), .unset, .unset] [])) t → Steps p.tables e below (s₁.setTop (entryFrame m #[(.ref a1), (.int p2), (.ref a3), (.int p4), (.int p5)] 7)) t := fun t k => castTop (ef_10 m a1 p2 a3 p4 p5) k
  have pre1 : ∀ t, Steps p.tables e below (s₁.setTop (mkF m 3 #[.val (.ref a1), .val (.int p2), .val (.ref a3), .val (.int p4), .val (.int p5), .val (.int (0 : Int32)), .unset] [])) t → Steps p.tables e below (s₁.setTop (entryFrame m #[(.ref a1), (.int p2), (.ref a3), (.int p4), (.int p5)] 7)) t := by
    intro t k
    refine pre0 t ?_
    show Steps p.tables e below (s₁.setTop (mkF m 0 #[.val (.ref a1), .val (.int p2), .val (.ref a3), .val (.int p4), .val (.int p5), .unset, .unset] [])) _
    refine XS.iconst X0.here hx rfl (hb hby d10_0) ?_
    show Steps p.tables e below (s₁.setTop (mkF m 1 #[.val (.ref a1), .val (.int p2), .val (.ref a3), .val (.int p4), .val (.int p5), .unset, .unset] [(.int (0 : Int32))])) _
    refine XS.istore X0.here hx rfl (hb hby d10_1) rfl (l' := #[.val (.ref a1), .val (.int p2), .val (.ref a3), .val (.int p4), .val (.int p5), .val (.int (0 : Int32)), .unset]) rfl ?_
    exact k
  have loop3 : ∀ (k : Nat) (i1 : Int32) (i3 : Int32) (i5 : Int32) (s6 : Slot) (y3 : Nat → Int32) (T6 : State) (LT6 : List Loc) (h6 : Heap), One s6 → i1.toInt = i5.toInt ∧ i3.toInt = i5.toInt ∧ 0 ≤ i5.toInt ∧ i5.toInt ≤ p5.toInt ∧ p5.toInt - i5.toInt < (k : Int) → Stand p l e ({ frames := 0, cells := 0, slots := 0, locals := 0 } : Room) s m #[(.ref a1), (.int p2), (.ref a3), (.int p4), (.int p5)] below meth c T6 LT6 0 0 → T6.heap = h6 → Fr n0 LT6 → n0 ≤ h6.size → IAr Z h6 a1 .char z_a1 c_a1 → IAr Z h6 a3 .byte z_a3 y3 → Keep h0 h6 [a3] → (g10_3 p2 p4 p5 z_a1 c_a1 z_a3 c_a3 k i1 i3 i5 y3) = (f10 p2 p4 p5 z_a1 c_a1 z_a3 c_a3) → (g10_3_1 p2 p4 p5 z_a1 c_a1 z_a3 c_a3 k i1 i3 i5 y3) = (f10_o0 p2 p4 p5 z_a1 c_a1 z_a3 c_a3) → (∀ t, Steps p.tables e below (T6.setTop (mkF m 3 #[.val (.ref a1), .val (.int i1), .val (.ref a3), .val (.int i3), .val (.int p5), .val (.int i5), s6] [])) t → Steps p.tables e below (s₁.setTop (entryFrame m #[(.ref a1), (.int p2), (.ref a3), (.int p4), (.int p5)] 7)) t) → ∃ s₂ o, Steps p.tables e below (s₁.setTop (entryFrame m #[(.ref a1), (.int p2), (.ref a3), (.int p4), (.int p5)] 7)) s₂ ∧ s₂.status = .running ∧ Ended s₂ below o ∧ ∃ v L, o = .returned v ∧ Q10 Z a1 p2 a3 p4 p5 z_a1 c_a1 z_a3 c_a3 h0 n0 v s₂.heap L ∧ FrameEnd s o s₂ L ({ frames := 0, cells := 0, slots := 0, locals := 0 } : Room).cells ({ frames := 0, cells := 0, slots := 0, locals := 0 } : Room).slots := by
    intro k
    induction k with
    | zero => intro i1 i3 i5 s6 y3 T6 LT6 h6 hs6 hI X6 e6 N6 c7 c8 c9 c10 hg0 hg1 preL; exact absurd hI (by omega)
    | succ k ih =>
      intro i1 i3 i5 s6 y3 T6 LT6 h6 hs6 hI X6 e6 N6 c7 c8 c9 c10 hg0 hg1 preL
      have pre2 : ∀ t, Steps p.tables e below (T6.setTop (mkF m 7 #[.val (.ref a1), .val (.int i1), .val (.ref a3), .val (.int i3), .val (.int p5), .val (.int i5), s6] [(.int p5), (.int i5)])) t → Steps p.tables e below (s₁.setTop (entryFrame m #[(.ref a1), (.int p2), (.ref a3), (.int p4), (.int p5)] 7)) t := by
        intro t k
        refine preL t ?_
        show Steps p.tables e below (T6.setTop (mkF m 3 #[.val (.ref a1), .val (.int i1), .val (.ref a3), .val (.int i3), .val (.int p5), .val (.int i5), s6] [])) _
        refine XS.iload X6.here hx rfl (hb hby d10_3) rfl ?_
        show Steps p.tables e below (T6.setTop (mkF m 5 #[.val (.ref a1), .val (.int i1), .val (.ref a3), .val (.int i3), .val (.int p5), .val (.int i5), s6] [(.int i5)])) _
        refine XS.iload X6.here hx rfl (hb hby d10_5) rfl ?_
        exact k
      by_cases hc7 : i5 < p5
      · obtain ⟨T11, h11, X11, e11, W11, V11, st11⟩ := sB X6 hx hZ e6 c9 (j := i3) (own_c2 hI hz3 hc7) (g := (mkF m 31 #[.val (.ref a1), .val (.int i1), .val (.ref a3), .val (.int i3), .val (.int p5), .val (.int i5), .val (.int (c_a1 (i1).toNatClampNeg))] [(.int ((c_a1 (i1).toNatClampNeg).toInt8.toInt32)), (.int i3), (.ref a3)])) rfl rfl (hb hby d10_31)
        have N11 := Fr.snoc X11 N6 g_a3
        have c12 : n0 ≤ h11.size := Nat.le_trans c7 (Keep.of_wr W11).1
        have c13 : IAr Z h11 a1 .char z_a1 c_a1 := c8.other W11 ne_a1_a3
        have c14 : IAr Z h11 a3 .byte z_a3 (ownU y3 (i3).toNatClampNeg (nar .byte ((c_a1 (i1).toNatClampNeg).toInt8.toInt32))) := V11
        have c15 : Keep h0 h11 [a3] := c10.wr W11 (Or.inl (List.mem_of_getElem? (i := 0) rfl))
        have eq3 : (f10 p2 p4 p5 z_a1 c_a1 z_a3 c_a3) = (g10_3 p2 p4 p5 z_a1 c_a1 z_a3 c_a3 k (i1 + (1 : Int32)) (i3 + (1 : Int32)) (i5 + (1 : Int32)) (ownU y3 (i3).toNatClampNeg (nar .byte ((c_a1 (i1).toNatClampNeg).toInt8.toInt32)))) := by rw [← hg0]; simp only [g10_3, if_pos hc7]
        have eq4 : (f10_o0 p2 p4 p5 z_a1 c_a1 z_a3 c_a3) = (g10_3_1 p2 p4 p5 z_a1 c_a1 z_a3 c_a3 k (i1 + (1 : Int32)) (i3 + (1 : Int32)) (i5 + (1 : Int32)) (ownU y3 (i3).toNatClampNeg (nar .byte ((c_a1 (i1).toNatClampNeg).toInt8.toInt32)))) := by rw [← hg1]; simp only [g10_3_1, if_pos hc7]
        have pre5 : ∀ t, Steps p.tables e below (T11.setTop (mkF m 3 #[.val (.ref a1), .val (.int (i1 + (1 : Int32))), .val (.ref a3), .val (.int (i3 + (1 : Int32))), .val (.int p5), .val (.int (i5 + (1 : Int32))), .val (.int (c_a1 (i1).toNatClampNeg))] [])) t → Steps p.tables e below (s₁.setTop (entryFrame m #[(.ref a1), (.int p2), (.ref a3), (.int p4), (.int p5)] 7)) t := by
          intro t k
          refine pre2 t ?_
          show Steps p.tables e below (T6.setTop (mkF m 7 #[.val (.ref a1), .val (.int i1), .val (.ref a3), .val (.int i3), .val (.int p5), .val (.int i5), s6] [(.int p5), (.int i5)])) _
          refine XS.icmpNo X6.here hx rfl (hb hby d10_7) rfl (tlt hc7).2.1 ?_
          show Steps p.tables e below (T6.setTop (mkF m 10 #[.val (.ref a1), .val (.int i1), .val (.ref a3), .val (.int i3), .val (.int p5), .val (.int i5), s6] [])) _
          refine XS.aloadN X6.here hx rfl (hb hby d10_10) rfl rfl ?_
          show Steps p.tables e below (T6.setTop (mkF m 11 #[.val (.ref a1), .val (.int i1), .val (.ref a3), .val (.int i3), .val (.int p5), .val (.int i5), s6] [(.ref a1)])) _
          refine XS.iloadN X6.here hx rfl (hb hby d10_11) rfl ?_
          show Steps p.tables e below (T6.setTop (mkF m 12 #[.val (.ref a1), .val (.int i1), .val (.ref a3), .val (.int i3), .val (.int p5), .val (.int i5), s6] [(.int i1), (.ref a1)])) _
          refine ldC X6 hx hZ e6 c8 (j := i1) (own_c1 hI hz hc7) (g := (mkF m 12 #[.val (.ref a1), .val (.int i1), .val (.ref a3), .val (.int i3), .val (.int p5), .val (.int i5), s6] [(.int i1), (.ref a1)])) rfl rfl (hb hby d10_12) ?_
          show Steps p.tables e below (T6.setTop (mkF m 13 #[.val (.ref a1), .val (.int i1), .val (.ref a3), .val (.int i3), .val (.int p5), .val (.int i5), s6] [(.int (c_a1 (i1).toNatClampNeg))])) _
          refine XS.istoreS X6.here hx rfl (hb hby d10_13) rfl (o := s6) rfl hs6 ?_
          show Steps p.tables e below (T6.setTop (mkF m 15 #[.val (.ref a1), .val (.int i1), .val (.ref a3), .val (.int i3), .val (.int p5), .val (.int i5), .val (.int (c_a1 (i1).toNatClampNeg))] [])) _
          refine XS.iload X6.here hx rfl (hb hby d10_15) rfl ?_
          show Steps p.tables e below (T6.setTop (mkF m 17 #[.val (.ref a1), .val (.int i1), .val (.ref a3), .val (.int i3), .val (.int p5), .val (.int i5), .val (.int (c_a1 (i1).toNatClampNeg))] [(.int (c_a1 (i1).toNatClampNeg))])) _
          refine XS.sipush X6.here hx rfl (hb hby d10_17) ?_
          show Steps p.tables e below (T6.setTop (mkF m 20 #[.val (.ref a1), .val (.int i1), .val (.ref a3), .val (.int i3), .val (.int p5), .val (.int i5), .val (.int (c_a1 (i1).toNatClampNeg))] [(.int (255 : Int32)), (.int (c_a1 (i1).toNatClampNeg))])) _
          refine XS.icmpYes X6.here hx rfl (pc0 := 20) (pc' := 26) rfl (hb hby d10_20) rfl (flt (own_n255 (hch _) : ¬ ((255 : Int32) < (c_a1 (i1).toNatClampNeg)))).2.2.2 (by decide) (by decide) ?_
          show Steps p.tables e below (T6.setTop (mkF m 26 #[.val (.ref a1), .val (.int i1), .val (.ref a3), .val (.int i3), .val (.int p5), .val (.int i5), .val (.int (c_a1 (i1).toNatClampNeg))] [])) _
          refine XS.aloadN X6.here hx rfl (hb hby d10_26) rfl rfl ?_
          show Steps p.tables e below (T6.setTop (mkF m 27 #[.val (.ref a1), .val (.int i1), .val (.ref a3), .val (.int i3), .val (.int p5), .val (.int i5), .val (.int (c_a1 (i1).toNatClampNeg))] [(.ref a3)])) _
          refine XS.iloadN X6.here hx rfl (hb hby d10_27) rfl ?_
          show Steps p.tables e below (T6.setTop (mkF m 28 #[.val (.ref a1), .val (.int i1), .val (.ref a3), .val (.int i3), .val (.int p5), .val (.int i5), .val (.int (c_a1 (i1).toNatClampNeg))] [(.int i3), (.ref a3)])) _
          refine XS.iload X6.here hx rfl (hb hby d10_28) rfl ?_
          show Steps p.tables e below (T6.setTop (mkF m 30 #[.val (.ref a1), .val (.int i1), .val (.ref a3), .val (.int i3), .val (.int p5), .val (.int i5), .val (.int (c_a1 (i1).toNatClampNeg))] [(.int (c_a1 (i1).toNatClampNeg)), (.int i3), (.ref a3)])) _
          refine XS.i2b X6.here hx rfl (hb hby d10_30) rfl ?_
          show Steps p.tables e below (T6.setTop (mkF m 31 #[.val (.ref a1), .val (.int i1), .val (.ref a3), .val (.int i3), .val (.int p5), .val (.int i5), .val (.int (c_a1 (i1).toNatClampNeg))] [(.int ((c_a1 (i1).toNatClampNeg).toInt8.toInt32)), (.int i3), (.ref a3)])) _
          refine st11 _ ?_
          show Steps p.tables e below (T11.setTop (mkF m 32 #[.val (.ref a1), .val (.int i1), .val (.ref a3), .val (.int i3), .val (.int p5), .val (.int i5), .val (.int (c_a1 (i1).toNatClampNeg))] [])) _
          refine XS.iinc X11.here hx rfl (hb hby d10_32) rfl (l' := #[.val (.ref a1), .val (.int (i1 + (1 : Int32))), .val (.ref a3), .val (.int i3), .val (.int p5), .val (.int i5), .val (.int (c_a1 (i1).toNatClampNeg))]) rfl ?_
          show Steps p.tables e below (T11.setTop (mkF m 35 #[.val (.ref a1), .val (.int (i1 + (1 : Int32))), .val (.ref a3), .val (.int i3), .val (.int p5), .val (.int i5), .val (.int (c_a1 (i1).toNatClampNeg))] [])) _
          refine XS.iinc X11.here hx rfl (hb hby d10_35) rfl (l' := #[.val (.ref a1), .val (.int (i1 + (1 : Int32))), .val (.ref a3), .val (.int (i3 + (1 : Int32))), .val (.int p5), .val (.int i5), .val (.int (c_a1 (i1).toNatClampNeg))]) rfl ?_
          show Steps p.tables e below (T11.setTop (mkF m 38 #[.val (.ref a1), .val (.int (i1 + (1 : Int32))), .val (.ref a3), .val (.int (i3 + (1 : Int32))), .val (.int p5), .val (.int i5), .val (.int (c_a1 (i1).toNatClampNeg))] [])) _
          refine XS.iinc X11.here hx rfl (hb hby d10_38) rfl (l' := #[.val (.ref a1), .val (.int (i1 + (1 : Int32))), .val (.ref a3), .val (.int (i3 + (1 : Int32))), .val (.int p5), .val (.int (i5 + (1 : Int32))), .val (.int (c_a1 (i1).toNatClampNeg))]) rfl ?_
          show Steps p.tables e below (T11.setTop (mkF m 41 #[.val (.ref a1), .val (.int (i1 + (1 : Int32))), .val (.ref a3), .val (.int (i3 + (1 : Int32))), .val (.int p5), .val (.int (i5 + (1 : Int32))), .val (.int (c_a1 (i1).toNatClampNeg))] [])) _
          refine XS.goto X11.here hx rfl (pc0 := 41) (pc' := 3) rfl (hb hby d10_41) (by decide) (by decide) ?_
          exact k
        exact ih (i1 + (1 : Int32)) (i3 + (1 : Int32)) (i5 + (1 : Int32)) (.val (.int (c_a1 (i1).toNatClampNeg))) (ownU y3 (i3).toNatClampNeg (nar .byte ((c_a1 (i1).toNatClampNeg).toInt8.toInt32))) T11 _ h11 (One.val rfl) (own_c3 hI hc7) X11 e11 N11 c12 c13 c14 c15  (eq3).symm (eq4).symm pre5
      · have eq6 : (f10 p2 p4 p5 z_a1 c_a1 z_a3 c_a3) = p5 := by rw [← hg0]; simp only [g10_3, if_neg hc7]
        have eq7 : (f10_o0 p2 p4 p5 z_a1 c_a1 z_a3 c_a3) = y3 := by rw [← hg1]; simp only [g10_3_1, if_neg hc7]
        obtain ⟨fs, hr, hrun, hended, hW, hsame⟩ := X6.leave (v := some (.int p5)) (fun h => by rw [Bd.returns] at h; cases h)
        refine ⟨_, _, pre2 _ ?_, hrun, hended, _, _, rfl, ?_, ⟨_, rfl⟩, hW, hsame.mono (by decide) (by decide)⟩
        · show Steps p.tables e below (T6.setTop (mkF m 7 #[.val (.ref a1), .val (.int i1), .val (.ref a3), .val (.int i3), .val (.int p5), .val (.int i5), s6] [(.int p5), (.int i5)])) _
          refine XS.icmpYes X6.here hx rfl (pc0 := 7) (pc' := 44) rfl (hb hby d10_7) rfl (flt hc7).2.1 (by decide) (by decide) ?_
          show Steps p.tables e below (T6.setTop (mkF m 44 #[.val (.ref a1), .val (.int i1), .val (.ref a3), .val (.int i3), .val (.int p5), .val (.int i5), s6] [])) _
          refine XS.iload X6.here hx rfl (hb hby d10_44) rfl ?_
          show Steps p.tables e below (T6.setTop (mkF m 46 #[.val (.ref a1), .val (.int i1), .val (.ref a3), .val (.int i3), .val (.int p5), .val (.int i5), s6] [(.int p5)])) _
          exact retI X6 hx Bd.returns (hb hby d10_46) hr
        · show Q10 Z a1 p2 a3 p4 p5 z_a1 c_a1 z_a3 c_a3 h0 n0 _ T6.heap _
          rw [e6]
          exact ⟨by rw [eq6], N6, c10, (by rw [eq7]; exact c9)⟩
  exact loop3 4 p2 p4 (0 : Int32) .unset c_a3 s₁ _ h0 (One.u) (own_c4 kz0 kz4 kzl) X0 e0 N0 Z0 V_a1 V_a3 (Keep.refl h0 [a3]) (rfl) (rfl) pre1
theorem own_g10 (p2 p4 p5 z1 z3 : Int32) (c c3 : Nat → Int32) : ∀ (k : Nat) (i1 i3 i5 : Int32) (y : Nat → Int32), (i1.toInt = i5.toInt ∧ i3.toInt = i5.toInt ∧ 0 ≤ i5.toInt ∧ i5.toInt ≤ p5.toInt ∧ p5.toInt - i5.toInt < (k : Int)) → g10_3 p2 p4 p5 z1 c z3 c3 k i1 i3 i5 y = p5 := by
  intro k
  induction k with
  | zero => intro i1 i3 i5 y h; omega
  | succ k ih =>
    intro i1 i3 i5 y h
    simp only [g10_3]
    by_cases h1 : i5 < p5
    · simp only [if_pos h1]
      exact ih _ _ _ _ (own_c3 h h1)
    · simp only [if_neg h1]
theorem own_k0 {p2 p3 z z3 : Int32} {c c3 : Nat → Int32} (h : p2 = 0) (hl : 1 ≤ p3.toInt ∧ p3.toInt ≤ 3) : f10 p2 0 p3 z c z3 c3 = p3 := own_g10 p2 0 p3 z z3 c c3 4 p2 0 0 _ (own_c4 h rfl hl)
theorem pd_3 : parseMethodDescriptor "([CI[BII)I" = some ⟨[(.array .char), .int, (.array .byte), .int, .int], some .int⟩ := by decide +kernel
theorem d9_0 : decode jdk_52_method_16_code 0 = .ok (.iload_n 2, 1) := by decide +kernel
theorem d9_1 : decode jdk_52_method_16_code 1 = .ok (.newarray .byte, 2) := by decide +kernel
theorem d9_3 : decode jdk_52_method_16_code 3 = .ok (.astore_n 3, 1) := by decide +kernel
theorem d9_4 : decode jdk_52_method_16_code 4 = .ok (.aload_n 0, 1) := by decide +kernel
theorem d9_5 : decode jdk_52_method_16_code 5 = .ok (.iload_n 1, 1) := by decide +kernel
theorem d9_6 : decode jdk_52_method_16_code 6 = .ok (.aload_n 3, 1) := by decide +kernel
theorem d9_7 : decode jdk_52_method_16_code 7 = .ok (.iconst 0, 1) := by decide +kernel
theorem d9_8 : decode jdk_52_method_16_code 8 = .ok (.iload_n 2, 1) := by decide +kernel
theorem d9_9 : decode jdk_52_method_16_code 9 = .ok (.invokestatic 115, 3) := by decide +kernel
theorem d9_12 : decode jdk_52_method_16_code 12 = .ok (.istore 4, 2) := by decide +kernel
theorem d9_14 : decode jdk_52_method_16_code 14 = .ok (.iload 4, 2) := by decide +kernel
theorem d9_16 : decode jdk_52_method_16_code 16 = .ok (.iload_n 2, 1) := by decide +kernel
theorem d9_17 : decode jdk_52_method_16_code 17 = .ok (.if_icmp .eq 40, 3) := by decide +kernel
theorem d9_57 : decode jdk_52_method_16_code 57 = .ok (.aload_n 3, 1) := by decide +kernel
theorem d9_58 : decode jdk_52_method_16_code 58 = .ok (.areturn, 1) := by decide +kernel
theorem ef_9 (m : MethodId) (x0 : Addr) (x1 : Int32) (x2 : Int32) : entryFrame m #[(.ref x0), (.int x1), (.int x2)] 6 = mkF m 0 #[.val (.ref x0), .val (.int x1), .val (.int x2), .unset, .unset, .unset] [] := by first | (simp [entryFrame, mkF, argsToLocals, Value.category]; done) | rfl
def f9_x0n (p2 : Int32) (p3 : Int32) (z_a1 : Int32) (c_a1 : Nat → Int32) : Int32 := p3
def f9_x0c (p2 : Int32) (p3 : Int32) (z_a1 : Int32) (c_a1 : Nat → Int32) : Nat → Int32 := (f10_o0 p2 (0 : Int32) p3 z_a1 c_a1 p3 (fun _ => 0))
def Q9 (Z : State) (a1 : Addr) (p2 : Int32) (p3 : Int32) (z_a1 : Int32) (c_a1 : Nat → Int32) (h0 : Heap) (n0 : Nat) (v : Option Value) (h : Heap) (L : List Loc) : Prop := ∃ (r0 : Addr), v = some (.ref r0) ∧ Fr n0 L ∧ Keep h0 h [] ∧ h0.size ≤ r0 ∧ IAr Z h r0 .byte (f9_x0n p2 p3 z_a1 c_a1) (f9_x0c p2 p3 z_a1 c_a1)
set_option maxRecDepth 65536 in
set_option maxHeartbeats 40000000 in
theorem rm9 (l : Launch) (Z : State) (a0 : Array Value) (hw : ∀ d ∈ tables_1, d.before a0 Z = true) (ws : List Jvm.Cond) (a1 : Addr) (p2 : Int32) (p3 : Int32) (z_a1 : Int32) (c_a1 : Nat → Int32) (h0 : Heap) (n0 : Nat) (Z0 : n0 ≤ h0.size) (V_a1 : IAr Z h0 a1 .char z_a1 c_a1) (kz0 : p2 = 0) (kzl : 1 ≤ p3.toInt ∧ p3.toInt ≤ 3) (hz : z_a1 = p3) (hch : ∀ i, 0 ≤ (c_a1 i).toInt ∧ (c_a1 i).toInt < 256) :
    MetFree l (⟨"java/lang/StringUTF16", "compress", "([CII)[B"⟩ : MethodName) (head1 (Jvm.Cond.code (⟨"java/lang/StringUTF16", "compress", "([CII)[B"⟩ : MethodName) jdk_52_method_16_code 6 (some (.array .byte)) :: ws) ({ frames := 1, cells := 1, slots := 3, locals := 18 } : Room)) (fun a U => a = #[(.ref a1), (.int p2), (.int p3)] ∧ Z.Warmed39 U.vm ∧ U.heap = h0) (fun _ _ _ _ _ => True) (fun _ U o U' => ∃ v L, o = .returned v ∧ Q9 Z a1 p2 p3 z_a1 c_a1 h0 n0 v U'.heap L ∧ FrameEnd U o U' L ({ frames := 1, cells := 1, slots := 3, locals := 18 } : Room).cells ({ frames := 1, cells := 1, slots := 3, locals := 18 } : Room).slots) := by
  refine MetFree.of_bodySF (plainFor_of_name pn_2) hisR ?_
  intro p e s m args below meth c s₁ Bd hml0 hP hK
  obtain ⟨rfl, hZ, hh⟩ := hP
  have hx := Bd.exec
  have hby := Bd.bytes
  have hml : c.maxLocals = 6 := hml0
  have hown : s.vm.findClass "java/lang/StringUTF16" = some m.cls := findClass_of_methodNamed Bd.named
  have hnm := (name_of_methodNamed Bd.named Bd.method).1
  have X0 : Stand p l e ({ frames := 1, cells := 1, slots := 3, locals := 18 } : Room) s m #[(.ref a1), (.int p2), (.int p3)] below meth c s₁ [] 0 0 := Stand.of_body Bd
  have e0 : s₁.heap = h0 := by rw [← hh, Bd.state]; rfl
  have N0 := Fr.nil n0
  have pre0 : ∀ t, Steps p.tables e below (s₁.setTop (mkF m 0 #[.val (.ref a1), .val (.int p2), .val (.int p3), .unset, .unset, .unset] [])) t → Steps p.tables e below (s₁.setTop (entryFrame m #[(.ref a1), (.int p2), (.int p3)] 6)) t := fun t k => castTop (ef_9 m a1 p2 p3) k
  obtain ⟨T4, h4, k4, X4, e4, E4, A4, st4⟩ := newP X0 hx hZ (hw _ (List.mem_of_getElem? (i := 8) rfl)) e0 (g := (mkF m 1 #[.val (.ref a1), .val (.int p2), .val (.int p3), .unset, .unset, .unset] [(.int p3)])) rfl (hb hby d9_1) rfl (own_z1 kzl) (cap := 3) (own_z2 kzl) (by decide) (by decide) (by decide)
  obtain ⟨b4, g4⟩ : ∃ z, z = h0.size := ⟨_, rfl⟩
  rw [← g4] at A4 st4
  have ne_a1_b4 : a1 ≠ b4 := Nat.ne_of_lt (Nat.lt_of_lt_of_le V_a1.lt (Nat.le_of_eq g4.symm))
  have g_b4 : n0 ≤ b4 := Nat.le_trans Z0 (Nat.le_of_eq g4.symm)
  have sz_b4 : h0.size ≤ b4 := Nat.le_trans (Keep.refl h0 []).1 (Nat.le_of_eq g4.symm)
  have c5 : n0 ≤ h4.size := Nat.le_trans Z0 E4.1
  have c6 : IAr Z h4 a1 .char z_a1 c_a1 := V_a1.ext E4
  have c7 : Keep h0 h4 [] := (Keep.refl h0 []).ext E4
  have c8 : IAr Z h4 b4 .byte p3 (fun _ => 0) := IAr.new A4 (own_z1 kzl) rfl
  obtain ⟨_, _, ⟨T9, L9, k9, n9⟩, -, X9, ⟨Lc9, hQ9, l9, y9, z9⟩, st9⟩ := Jvm.LawKit.callS X4 hx (y := (⟨"java/lang/StringUTF16", "compress", "([CI[BII)I"⟩ : MethodName)) hown (mvT hZ (hw _ (List.mem_of_getElem? (i := 87) rfl))) (mvT hZ (hw _ (List.mem_of_getElem? (i := 88) rfl))) (mvT hZ (hw _ (List.mem_of_getElem? (i := 85) rfl))) (mvT hZ (hw _ (List.mem_of_getElem? (i := 89) rfl))) (by decide) (backOf (W := 0) (rm10 l Z a0 hw [] a1 p2 b4 (0 : Int32) p3 z_a1 c_a1 p3 (fun _ => 0) h4 n0 c5 c6 c8 g_b4 ne_a1_b4 kz0 rfl kzl hz rfl hch) hZ (hw _ (List.mem_of_getElem? (i := 89) rfl)) (hw _ (List.mem_of_getElem? (i := 85) rfl)) (by decide) (by decide)) (g := (mkF m 9 #[.val (.ref a1), .val (.int p2), .val (.int p3), .val (.ref b4), .unset, .unset] [(.int p3), (.int (0 : Int32)), (.ref b4), (.int p2), (.ref a1)])) rfl (by rw [hml]; rfl) (argsL := [(.ref a1), (.int p2), (.ref b4), (.int (0 : Int32)), (.int p3)]) (rest := []) (lenOf pd_3 rfl) rfl (by show 2 * 0 + _ ≤ _; exact Nat.le_of_eq rfl) (hb hby d9_9) (fun _ _ => ⟨rfl, e4, (by decide : 1 + 0 ≤ _), (by decide : 3 + 0 ≤ _)⟩)
  dsimp only [Pt.U, Pt.locs, Pt.cells, Pt.slots] at X9 l9 y9 z9 st9 hQ9
  subst l9 y9 z9
  obtain ⟨rfl, N9q, K9, o9_0⟩ := hQ9
  have N9 := Fr.app N0 N9q
  have c10 : n0 ≤ T9.heap.size := Nat.le_trans c5 K9.1
  have c11 : IAr Z T9.heap a1 .char z_a1 c_a1 := c6.keep K9 (ninS ne_a1_b4 nin0)
  have c12 : Keep h0 T9.heap [] := c7.trans K9 (allS (Or.inr sz_b4) all0)
  have c13 : IAr Z T9.heap b4 .byte p3 (f10_o0 p2 (0 : Int32) p3 z_a1 c_a1 p3 (fun _ => 0)) := o9_0
  have eq1 : (f9_x0n p2 p3 z_a1 c_a1) = p3 := rfl
  have eq2 : (f9_x0c p2 p3 z_a1 c_a1) = (f10_o0 p2 (0 : Int32) p3 z_a1 c_a1 p3 (fun _ => 0)) := rfl
  obtain ⟨fs, hr, hrun, hended, hW, hsame⟩ := X9.leave (v := some (.ref b4)) (fun h => by rw [Bd.returns] at h; cases h)
  refine ⟨_, _, pre0 _ ?_, hrun, hended, _, _, rfl, ?_, ⟨_, rfl⟩, hW, hsame.mono (by decide) (by decide)⟩
  · show Steps p.tables e below (s₁.setTop (mkF m 0 #[.val (.ref a1), .val (.int p2), .val (.int p3), .unset, .unset, .unset] [])) _
    refine XS.iloadN X0.here hx rfl (hb hby d9_0) rfl ?_
    show Steps p.tables e below (s₁.setTop (mkF m 1 #[.val (.ref a1), .val (.int p2), .val (.int p3), .unset, .unset, .unset] [(.int p3)])) _
    refine st4 _ ?_
    show Steps p.tables e below (T4.setTop (mkF m 3 #[.val (.ref a1), .val (.int p2), .val (.int p3), .unset, .unset, .unset] [(.ref b4)])) _
    refine XS.astoreN X4.here hx rfl (hb hby d9_3) rfl rfl (l' := #[.val (.ref a1), .val (.int p2), .val (.int p3), .val (.ref b4), .unset, .unset]) rfl ?_
    show Steps p.tables e below (T4.setTop (mkF m 4 #[.val (.ref a1), .val (.int p2), .val (.int p3), .val (.ref b4), .unset, .unset] [])) _
    refine XS.aloadN X4.here hx rfl (hb hby d9_4) rfl rfl ?_
    show Steps p.tables e below (T4.setTop (mkF m 5 #[.val (.ref a1), .val (.int p2), .val (.int p3), .val (.ref b4), .unset, .unset] [(.ref a1)])) _
    refine XS.iloadN X4.here hx rfl (hb hby d9_5) rfl ?_
    show Steps p.tables e below (T4.setTop (mkF m 6 #[.val (.ref a1), .val (.int p2), .val (.int p3), .val (.ref b4), .unset, .unset] [(.int p2), (.ref a1)])) _
    refine XS.aloadN X4.here hx rfl (hb hby d9_6) rfl rfl ?_
    show Steps p.tables e below (T4.setTop (mkF m 7 #[.val (.ref a1), .val (.int p2), .val (.int p3), .val (.ref b4), .unset, .unset] [(.ref b4), (.int p2), (.ref a1)])) _
    refine XS.iconst X4.here hx rfl (hb hby d9_7) ?_
    show Steps p.tables e below (T4.setTop (mkF m 8 #[.val (.ref a1), .val (.int p2), .val (.int p3), .val (.ref b4), .unset, .unset] [(.int (0 : Int32)), (.ref b4), (.int p2), (.ref a1)])) _
    refine XS.iloadN X4.here hx rfl (hb hby d9_8) rfl ?_
    show Steps p.tables e below (T4.setTop (mkF m 9 #[.val (.ref a1), .val (.int p2), .val (.int p3), .val (.ref b4), .unset, .unset] [(.int p3), (.int (0 : Int32)), (.ref b4), (.int p2), (.ref a1)])) _
    refine st9 _ ?_
    show Steps p.tables e below (T9.setTop (mkF m 12 #[.val (.ref a1), .val (.int p2), .val (.int p3), .val (.ref b4), .unset, .unset] [(.int (f10 p2 (0 : Int32) p3 z_a1 c_a1 p3 (fun _ => 0)))])) _
    refine XS.istore X9.here hx rfl (hb hby d9_12) rfl (l' := #[.val (.ref a1), .val (.int p2), .val (.int p3), .val (.ref b4), .val (.int (f10 p2 (0 : Int32) p3 z_a1 c_a1 p3 (fun _ => 0))), .unset]) rfl ?_
    show Steps p.tables e below (T9.setTop (mkF m 14 #[.val (.ref a1), .val (.int p2), .val (.int p3), .val (.ref b4), .val (.int (f10 p2 (0 : Int32) p3 z_a1 c_a1 p3 (fun _ => 0))), .unset] [])) _
    refine XS.iload X9.here hx rfl (hb hby d9_14) rfl ?_
    show Steps p.tables e below (T9.setTop (mkF m 16 #[.val (.ref a1), .val (.int p2), .val (.int p3), .val (.ref b4), .val (.int (f10 p2 (0 : Int32) p3 z_a1 c_a1 p3 (fun _ => 0))), .unset] [(.int (f10 p2 (0 : Int32) p3 z_a1 c_a1 p3 (fun _ => 0)))])) _
    refine XS.iloadN X9.here hx rfl (hb hby d9_16) rfl ?_
    show Steps p.tables e below (T9.setTop (mkF m 17 #[.val (.ref a1), .val (.int p2), .val (.int p3), .val (.ref b4), .val (.int (f10 p2 (0 : Int32) p3 z_a1 c_a1 p3 (fun _ => 0))), .unset] [(.int p3), (.int (f10 p2 (0 : Int32) p3 z_a1 c_a1 p3 (fun _ => 0)))])) _
    refine XS.icmpYes X9.here hx rfl (pc0 := 17) (pc' := 57) rfl (hb hby d9_17) rfl (teq (own_k0 kz0 kzl : (f10 p2 (0 : Int32) p3 z_a1 c_a1 p3 (fun _ => 0)) = p3)).1 (by decide) (by decide) ?_
    show Steps p.tables e below (T9.setTop (mkF m 57 #[.val (.ref a1), .val (.int p2), .val (.int p3), .val (.ref b4), .val (.int (f10 p2 (0 : Int32) p3 z_a1 c_a1 p3 (fun _ => 0))), .unset] [])) _
    refine XS.aloadN X9.here hx rfl (hb hby d9_57) rfl rfl ?_
    show Steps p.tables e below (T9.setTop (mkF m 58 #[.val (.ref a1), .val (.int p2), .val (.int p3), .val (.ref b4), .val (.int (f10 p2 (0 : Int32) p3 z_a1 c_a1 p3 (fun _ => 0))), .unset] [(.ref b4)])) _
    jvm_step X9.here [X9.here.top, hx, (hb hby d9_58), X9.method', Bd.returns, Value.isRef, FieldType.isReference]
    first | (intro acts; rw [hr _ acts rfl rfl rfl]) | rw [hr _ _ rfl rfl rfl]
    exact Steps.refl _
  · show Q9 Z a1 p2 p3 z_a1 c_a1 h0 n0 _ T9.heap _
    exact ⟨b4, rfl, N9, c12, sz_b4, (by rw [eq1, eq2]; exact c13)⟩
theorem pd_4 : parseMethodDescriptor "([CII)[B" = some ⟨[(.array .char), .int, .int], some (.array .byte)⟩ := by decide +kernel
theorem pd_5 : parseMethodDescriptor "([BI)B" = some ⟨[(.array .byte), .int], some .byte⟩ := by decide +kernel
theorem d8_0 : decode jdk_42_method_149_code 0 = .ok (.aload_n 0, 1) := by decide +kernel
theorem d8_1 : decode jdk_42_method_149_code 1 = .ok (.invokespecial 1, 3) := by decide +kernel
theorem d8_4 : decode jdk_42_method_149_code 4 = .ok (.iload_n 3, 1) := by decide +kernel
theorem d8_5 : decode jdk_42_method_149_code 5 = .ok (.ifCond .ne 22, 3) := by decide +kernel
theorem d8_27 : decode jdk_42_method_149_code 27 = .ok (.getstatic 38, 3) := by decide +kernel
theorem d8_30 : decode jdk_42_method_149_code 30 = .ok (.ifCond .eq 28, 3) := by decide +kernel
theorem d8_33 : decode jdk_42_method_149_code 33 = .ok (.aload_n 1, 1) := by decide +kernel
theorem d8_34 : decode jdk_42_method_149_code 34 = .ok (.iload_n 2, 1) := by decide +kernel
theorem d8_35 : decode jdk_42_method_149_code 35 = .ok (.iload_n 3, 1) := by decide +kernel
theorem d8_36 : decode jdk_42_method_149_code 36 = .ok (.invokestatic 177, 3) := by decide +kernel
theorem d8_39 : decode jdk_42_method_149_code 39 = .ok (.astore 5, 2) := by decide +kernel
theorem d8_41 : decode jdk_42_method_149_code 41 = .ok (.aload_n 0, 1) := by decide +kernel
theorem d8_42 : decode jdk_42_method_149_code 42 = .ok (.aload 5, 2) := by decide +kernel
theorem d8_44 : decode jdk_42_method_149_code 44 = .ok (.iload_n 3, 1) := by decide +kernel
theorem d8_45 : decode jdk_42_method_149_code 45 = .ok (.invokestatic 47, 3) := by decide +kernel
theorem d8_48 : decode jdk_42_method_149_code 48 = .ok (.putfield 15, 3) := by decide +kernel
theorem d8_51 : decode jdk_42_method_149_code 51 = .ok (.aload_n 0, 1) := by decide +kernel
theorem d8_52 : decode jdk_42_method_149_code 52 = .ok (.aload 5, 2) := by decide +kernel
theorem d8_54 : decode jdk_42_method_149_code 54 = .ok (.putfield 9, 3) := by decide +kernel
theorem d8_57 : decode jdk_42_method_149_code 57 = .ok (.return_, 1) := by decide +kernel
theorem ef_8 (m : MethodId) (x0 : Addr) (x1 : Addr) (x2 : Int32) (x3 : Int32) : entryFrame m #[(.ref x0), (.ref x1), (.int x2), (.int x3), .null] 6 = mkF m 0 #[.val (.ref x0), .val (.ref x1), .val (.int x2), .val (.int x3), .val .null, .unset] [] := by first | (simp [entryFrame, mkF, argsToLocals, Value.category]; done) | rfl
def f8_o0 (p3 : Int32) (p4 : Int32) (w_coder_a1 : Int32) (z_a2 : Int32) (c_a2 : Nat → Int32) (w_CS : Int32) : Int32 := (nar .byte (f11 p4 (f9_x0n p3 p4 z_a2 c_a2) (f9_x0c p3 p4 z_a2 c_a2)))
def f8_x0n (p3 : Int32) (p4 : Int32) (w_coder_a1 : Int32) (z_a2 : Int32) (c_a2 : Nat → Int32) (w_CS : Int32) : Int32 := (f9_x0n p3 p4 z_a2 c_a2)
def f8_x0c (p3 : Int32) (p4 : Int32) (w_coder_a1 : Int32) (z_a2 : Int32) (c_a2 : Nat → Int32) (w_CS : Int32) : Nat → Int32 := (f9_x0c p3 p4 z_a2 c_a2)
def Q8 (Z : State) (a1 : Addr) (a2 : Addr) (p3 : Int32) (p4 : Int32) (w_coder_a1 : Int32) (z_a2 : Int32) (c_a2 : Nat → Int32) (w_CS : Int32) (h0 : Heap) (n0 : Nat) (v : Option Value) (h : Heap) (L : List Loc) : Prop := ∃ (r0 : Addr), v = none ∧ Fr n0 L ∧ Keep h0 h [a1] ∧ Fld Z h a1 "java/lang/String" "coder" "B" (.int (f8_o0 p3 p4 w_coder_a1 z_a2 c_a2 w_CS)) ∧ h0.size ≤ r0 ∧ IAr Z h r0 .byte (f8_x0n p3 p4 w_coder_a1 z_a2 c_a2 w_CS) (f8_x0c p3 p4 w_coder_a1 z_a2 c_a2 w_CS) ∧ Fld Z h a1 "java/lang/String" "value" "[B" (.ref r0)
set_option maxRecDepth 65536 in
set_option maxHeartbeats 40000000 in
theorem rm8 (l : Launch) (Z : State) (a0 : Array Value) (hw : ∀ d ∈ tables_1, d.before a0 Z = true) (ws : List Jvm.Cond) (a1 : Addr) (a2 : Addr) (p3 : Int32) (p4 : Int32) (w_coder_a1 : Int32) (z_a2 : Int32) (c_a2 : Nat → Int32) (w_CS : Int32) (h0 : Heap) (n0 : Nat) (Z0 : n0 ≤ h0.size) (E_a1 : Exa Z h0 a1 "java/lang/String") (g_a1 : n0 ≤ a1) (F_value_a1 : Fld Z h0 a1 "java/lang/String" "value" "[B" .null) (F_coder_a1 : Fld Z h0 a1 "java/lang/String" "coder" "B" (.int w_coder_a1)) (V_a2 : IAr Z h0 a2 .char z_a2 c_a2) (ne_a1_a2 : a1 ≠ a2) (S_COMPACT_STRINGS : Sta Z h0 "java/lang/String" "COMPACT_STRINGS" "Z" (.int w_CS)) (hcs : ¬ w_CS = 0) (kz0 : p3 = 0) (kzl : 1 ≤ p4.toInt ∧ p4.toInt ≤ 3) (hz : z_a2 = p4) (hch : ∀ i, 0 ≤ (c_a2 i).toInt ∧ (c_a2 i).toInt < 256) :
    MetFree l (⟨"java/lang/String", "<init>", "([CIILjava/lang/Void;)V"⟩ : MethodName) (head1 (Jvm.Cond.code (⟨"java/lang/String", "<init>", "([CIILjava/lang/Void;)V"⟩ : MethodName) jdk_42_method_149_code 6 none :: ws) ({ frames := 2, cells := 1, slots := 3, locals := 35 } : Room)) (fun a U => a = #[(.ref a1), (.ref a2), (.int p3), (.int p4), .null] ∧ Z.Warmed39 U.vm ∧ U.heap = h0) (fun _ _ _ _ _ => True) (fun _ U o U' => ∃ v L, o = .returned v ∧ Q8 Z a1 a2 p3 p4 w_coder_a1 z_a2 c_a2 w_CS h0 n0 v U'.heap L ∧ FrameEnd U o U' L ({ frames := 2, cells := 1, slots := 3, locals := 35 } : Room).cells ({ frames := 2, cells := 1, slots := 3, locals := 35 } : Room).slots) := by
  refine MetFree.of_bodySF (plainFor_of_name pn_1) hisR ?_
  intro p e s m args below meth c s₁ Bd hml0 hP hK
  obtain ⟨rfl, hZ, hh⟩ := hP
  have hx := Bd.exec
  have hby := Bd.bytes
  have hml : c.maxLocals = 6 := hml0
  have hown : s.vm.findClass "java/lang/String" = some m.cls := findClass_of_methodNamed Bd.named
  have hnm := (name_of_methodNamed Bd.named Bd.method).1
  have X0 : Stand p l e ({ frames := 2, cells := 1, slots := 3, locals := 35 } : Room) s m #[(.ref a1), (.ref a2), (.int p3), (.int p4), .null] below meth c s₁ [] 0 0 := Stand.of_body Bd
  have e0 : s₁.heap = h0 := by rw [← hh, Bd.state]; rfl
  have N0 := Fr.nil n0
  have pre0 : ∀ t, Steps p.tables e below (s₁.setTop (mkF m 0 #[.val (.ref a1), .val (.ref a2), .val (.int p3), .val (.int p4), .val .null, .unset] [])) t → Steps p.tables e below (s₁.setTop (entryFrame m #[(.ref a1), (.ref a2), (.int p3), (.int p4), .null] 6)) t := fun t k => castTop (ef_8 m a1 a2 p3 p4) k
  obtain ⟨T6, X6, e6, st6⟩ := initO X0 hx hZ hown (hw _ (List.mem_of_getElem? (i := 81) rfl)) (hw _ (List.mem_of_getElem? (i := 29) rfl)) (hw _ (List.mem_of_getElem? (i := 30) rfl)) e0 (g := (mkF m 1 #[.val (.ref a1), .val (.ref a2), .val (.int p3), .val (.int p4), .val .null, .unset] [(.ref a1)])) rfl (by rw [hml]; rfl) rfl (hb hby d8_1) (by decide) (W := 0) (by show 2 * 0 + _ ≤ _; exact Nat.le_of_eq rfl) (by decide)
  obtain ⟨T7, X7, e7, st7⟩ := getS2 X6 hx hZ hown (host := "") (Or.inl (hw _ (List.mem_of_getElem? (i := 82) rfl))) Via.refl e6 S_COMPACT_STRINGS (g := (mkF m 27 #[.val (.ref a1), .val (.ref a2), .val (.int p3), .val (.int p4), .val .null, .unset] [])) rfl (hb hby d8_27)
  obtain ⟨_, _, ⟨T8, L8, k8, n8⟩, -, X8, ⟨Lc8, hQ8, l8, y8, z8⟩, st8⟩ := Jvm.LawKit.callS X7 hx (y := (⟨"java/lang/StringUTF16", "compress", "([CII)[B"⟩ : MethodName)) hown (mvT hZ (hw _ (List.mem_of_getElem? (i := 83) rfl))) (mvT hZ (hw _ (List.mem_of_getElem? (i := 84) rfl))) (mvT hZ (hw _ (List.mem_of_getElem? (i := 85) rfl))) (mvT hZ (hw _ (List.mem_of_getElem? (i := 86) rfl))) (by decide) (backOf (W := 0) (rm9 l Z a0 hw [] a2 p3 p4 z_a2 c_a2 h0 n0 Z0 V_a2 kz0 kzl hz hch) hZ (hw _ (List.mem_of_getElem? (i := 86) rfl)) (hw _ (List.mem_of_getElem? (i := 85) rfl)) (by decide) (by decide)) (g := (mkF m 36 #[.val (.ref a1), .val (.ref a2), .val (.int p3), .val (.int p4), .val .null, .unset] [(.int p4), (.int p3), (.ref a2)])) rfl (by rw [hml]; rfl) (argsL := [(.ref a2), (.int p3), (.int p4)]) (rest := []) (lenOf pd_4 rfl) rfl (by show 2 * 0 + _ ≤ _; exact Nat.le_of_eq rfl) (hb hby d8_36) (fun _ _ => ⟨rfl, e7, (by decide : 0 + 1 ≤ _), (by decide : 0 + 3 ≤ _)⟩)
  dsimp only [Pt.U, Pt.locs, Pt.cells, Pt.slots] at X8 l8 y8 z8 st8 hQ8
  subst l8 y8 z8
  obtain ⟨r8_0, rfl, N8q, K8, zz8_0, va8_0⟩ := hQ8
  have N8 := Fr.app N0 N8q
  have ne_a1_r8_0 : a1 ≠ r8_0 := Nat.ne_of_lt (Nat.lt_of_lt_of_le E_a1.lt zz8_0)
  have ne_a2_r8_0 : a2 ≠ r8_0 := Nat.ne_of_lt (Nat.lt_of_lt_of_le V_a2.lt zz8_0)
  have g_r8_0 : n0 ≤ r8_0 := Nat.le_trans Z0 zz8_0
  have sz_r8_0 : h0.size ≤ r8_0 := Nat.le_trans (Keep.refl h0 [a1]).1 zz8_0
  have c9 : n0 ≤ T8.heap.size := Nat.le_trans Z0 K8.1
  have c10 : Exa Z T8.heap a1 "java/lang/String" := E_a1.keep K8
  have c11 : Fld Z T8.heap a1 "java/lang/String" "value" "[B" .null := F_value_a1.keep K8 nin0
  have c12 : Fld Z T8.heap a1 "java/lang/String" "coder" "B" (.int w_coder_a1) := F_coder_a1.keep K8 nin0
  have c13 : IAr Z T8.heap a2 .char z_a2 c_a2 := V_a2.keep K8 nin0
  have c14 : Sta Z T8.heap "java/lang/String" "COMPACT_STRINGS" "Z" (.int w_CS) := own_staK0 S_COMPACT_STRINGS K8
  have c15 : Keep h0 T8.heap [a1] := (Keep.refl h0 [a1]).trans K8 all0
  obtain ⟨_, _, ⟨T16, L16, k16, n16⟩, -, X16, ⟨Lc16, hQ16, l16, y16, z16⟩, st16⟩ := Jvm.LawKit.callS X8 hx (y := (⟨"java/lang/StringUTF16", "coderFromArrayLen", "([BI)B"⟩ : MethodName)) hown (mvT hZ (hw _ (List.mem_of_getElem? (i := 90) rfl))) (mvT hZ (hw _ (List.mem_of_getElem? (i := 91) rfl))) (mvT hZ (hw _ (List.mem_of_getElem? (i := 85) rfl))) (mvT hZ (hw _ (List.mem_of_getElem? (i := 92) rfl))) (by decide) (backOf (W := 1) (rm11 l Z a0 hw [] r8_0 p4 (f9_x0n p3 p4 z_a2 c_a2) (f9_x0c p3 p4 z_a2 c_a2) T8.heap n0 c9 va8_0) hZ (hw _ (List.mem_of_getElem? (i := 92) rfl)) (hw _ (List.mem_of_getElem? (i := 85) rfl)) (by decide) (by decide)) (g := (mkF m 45 #[.val (.ref a1), .val (.ref a2), .val (.int p3), .val (.int p4), .val .null, .val (.ref r8_0)] [(.int p4), (.ref r8_0), (.ref a1)])) rfl (by rw [hml]; rfl) (argsL := [(.ref r8_0), (.int p4)]) (rest := [(.ref a1)]) (lenOf pd_5 rfl) rfl (by show 2 * 0 + _ ≤ _; exact Nat.le_of_eq rfl) (hb hby d8_45) (fun _ _ => ⟨rfl, rfl, (by decide : 1 + 0 ≤ _), (by decide : 3 + 0 ≤ _)⟩)
  dsimp only [Pt.U, Pt.locs, Pt.cells, Pt.slots] at X16 l16 y16 z16 st16 hQ16
  subst l16 y16 z16
  obtain ⟨rfl, N16q, e16⟩ := hQ16
  have N16 := Fr.app N8 N16q
  obtain ⟨T17, h17, X17, e17, W17, st17⟩ := putFN X16 hx hZ hown (hw _ (List.mem_of_getElem? (i := 93) rfl)) Via.refl e16 c12 c10 (Or.inr ⟨(hw _ (List.mem_of_getElem? (i := 10) rfl)), rfl, hnm⟩) (hw _ (List.mem_of_getElem? (i := 7) rfl)) (ty := .byte) (v' := (.int (nar .byte (f11 p4 (f9_x0n p3 p4 z_a2 c_a2) (f9_x0c p3 p4 z_a2 c_a2))))) (by decide) rfl (fits_nar_byte _) (g := (mkF m 48 #[.val (.ref a1), .val (.ref a2), .val (.int p3), .val (.int p4), .val .null, .val (.ref r8_0)] [(.int (f11 p4 (f9_x0n p3 p4 z_a2 c_a2) (f9_x0c p3 p4 z_a2 c_a2))), (.ref a1)])) rfl rfl (hb hby d8_48)
  have N17 := Fr.snoc X17 N16 g_a1
  have c18 : n0 ≤ h17.size := Nat.le_trans c9 (Keep.of_wr W17).1
  have c19 : Exa Z h17 a1 "java/lang/String" := c10.wr W17
  have c20 : Fld Z h17 a1 "java/lang/String" "value" "[B" .null := c11.other W17 (Or.inr (slot_ne (Or.inr (hw _ (List.mem_of_getElem? (i := 9) rfl))) (Or.inr (hw _ (List.mem_of_getElem? (i := 10) rfl))) (by decide) (t := (.array .byte)) (t' := .byte) (by decide) (by decide)))
  have c21 : Fld Z h17 a1 "java/lang/String" "coder" "B" (.int (nar .byte (f11 p4 (f9_x0n p3 p4 z_a2 c_a2) (f9_x0c p3 p4 z_a2 c_a2)))) := c12.same W17
  have c22 : IAr Z h17 a2 .char z_a2 c_a2 := c13.other W17 (Ne.symm ne_a1_a2)
  have c23 : Sta Z h17 "java/lang/String" "COMPACT_STRINGS" "Z" (.int w_CS) := c14.wr W17
  have c24 : Keep h0 h17 [a1] := c15.wr W17 (Or.inl (List.mem_of_getElem? (i := 0) rfl))
  have c25 : IAr Z h17 r8_0 .byte (f9_x0n p3 p4 z_a2 c_a2) (f9_x0c p3 p4 z_a2 c_a2) := va8_0.other W17 (Ne.symm ne_a1_r8_0)
  obtain ⟨T26, h26, X26, e26, W26, st26⟩ := putF X17 hx hZ hown (host := "") (Or.inl (hw _ (List.mem_of_getElem? (i := 71) rfl))) Via.refl e17 c20 c19 (Or.inr ⟨(hw _ (List.mem_of_getElem? (i := 9) rfl)), rfl, hnm⟩) (hw _ (List.mem_of_getElem? (i := 7) rfl)) (ty := (.array .byte)) (by decide) rfl rfl (g := (mkF m 54 #[.val (.ref a1), .val (.ref a2), .val (.int p3), .val (.int p4), .val .null, .val (.ref r8_0)] [(.ref r8_0), (.ref a1)])) rfl rfl (hb hby d8_54)
  have N26 := Fr.snoc X26 N17 g_a1
  have c27 : n0 ≤ h26.size := Nat.le_trans c18 (Keep.of_wr W26).1
  have c28 : Exa Z h26 a1 "java/lang/String" := c19.wr W26
  have c29 : Fld Z h26 a1 "java/lang/String" "value" "[B" (.ref r8_0) := c20.same W26
  have c30 : Fld Z h26 a1 "java/lang/String" "coder" "B" (.int (nar .byte (f11 p4 (f9_x0n p3 p4 z_a2 c_a2) (f9_x0c p3 p4 z_a2 c_a2)))) := c21.other W26 (Or.inr (slot_ne (Or.inr (hw _ (List.mem_of_getElem? (i := 10) rfl))) (Or.inr (hw _ (List.mem_of_getElem? (i := 9) rfl))) (by decide) (t := .byte) (t' := (.array .byte)) (by decide) (by decide)))
  have c31 : IAr Z h26 a2 .char z_a2 c_a2 := c22.other W26 (Ne.symm ne_a1_a2)
  have c32 : Sta Z h26 "java/lang/String" "COMPACT_STRINGS" "Z" (.int w_CS) := c23.wr W26
  have c33 : Keep h0 h26 [a1] := c24.wr W26 (Or.inl (List.mem_of_getElem? (i := 0) rfl))
  have c34 : IAr Z h26 r8_0 .byte (f9_x0n p3 p4 z_a2 c_a2) (f9_x0c p3 p4 z_a2 c_a2) := c25.other W26 (Ne.symm ne_a1_r8_0)
  have eq1 : (f8_o0 p3 p4 w_coder_a1 z_a2 c_a2 w_CS) = (nar .byte (f11 p4 (f9_x0n p3 p4 z_a2 c_a2) (f9_x0c p3 p4 z_a2 c_a2))) := rfl
  have eq2 : (f8_x0n p3 p4 w_coder_a1 z_a2 c_a2 w_CS) = (f9_x0n p3 p4 z_a2 c_a2) := rfl
  have eq3 : (f8_x0c p3 p4 w_coder_a1 z_a2 c_a2 w_CS) = (f9_x0c p3 p4 z_a2 c_a2) := rfl
  obtain ⟨fs, hr, hrun, hended, hW, hsame⟩ := X26.leave (v := none) (fun _ => rfl)
  refine ⟨_, _, pre0 _ ?_, hrun, hended, _, _, rfl, ?_, ⟨_, rfl⟩, hW, hsame.mono (by decide) (by decide)⟩
  · show Steps p.tables e below (s₁.setTop (mkF m 0 #[.val (.ref a1), .val (.ref a2), .val (.int p3), .val (.int p4), .val .null, .unset] [])) _
    refine XS.aloadN X0.here hx rfl (hb hby d8_0) rfl rfl ?_
    show Steps p.tables e below (s₁.setTop (mkF m 1 #[.val (.ref a1), .val (.ref a2), .val (.int p3), .val (.int p4), .val .null, .unset] [(.ref a1)])) _
    refine st6 _ ?_
    show Steps p.tables e below (T6.setTop (mkF m 4 #[.val (.ref a1), .val (.ref a2), .val (.int p3), .val (.int p4), .val .null, .unset] [])) _
    refine XS.iloadN X6.here hx rfl (hb hby d8_4) rfl ?_
    show Steps p.tables e below (T6.setTop (mkF m 5 #[.val (.ref a1), .val (.ref a2), .val (.int p3), .val (.int p4), .val .null, .unset] [(.int p4)])) _
    refine XS.ifYes X6.here hx rfl (pc0 := 5) (pc' := 27) rfl (hb hby d8_5) rfl ((if0 _ _).trans (feq (own_z3 kzl : ¬ (p4 = (0 : Int32)))).2) (by decide) (by decide) ?_
    show Steps p.tables e below (T6.setTop (mkF m 27 #[.val (.ref a1), .val (.ref a2), .val (.int p3), .val (.int p4), .val .null, .unset] [])) _
    refine st7 _ ?_
    show Steps p.tables e below (T7.setTop (mkF m 30 #[.val (.ref a1), .val (.ref a2), .val (.int p3), .val (.int p4), .val .null, .unset] [(.int w_CS)])) _
    refine XS.ifNo X7.here hx rfl (hb hby d8_30) rfl ((if0 _ _).trans (feq (hcs : ¬ (w_CS = (0 : Int32)))).1) ?_
    show Steps p.tables e below (T7.setTop (mkF m 33 #[.val (.ref a1), .val (.ref a2), .val (.int p3), .val (.int p4), .val .null, .unset] [])) _
    refine XS.aloadN X7.here hx rfl (hb hby d8_33) rfl rfl ?_
    show Steps p.tables e below (T7.setTop (mkF m 34 #[.val (.ref a1), .val (.ref a2), .val (.int p3), .val (.int p4), .val .null, .unset] [(.ref a2)])) _
    refine XS.iloadN X7.here hx rfl (hb hby d8_34) rfl ?_
    show Steps p.tables e below (T7.setTop (mkF m 35 #[.val (.ref a1), .val (.ref a2), .val (.int p3), .val (.int p4), .val .null, .unset] [(.int p3), (.ref a2)])) _
    refine XS.iloadN X7.here hx rfl (hb hby d8_35) rfl ?_
    show Steps p.tables e below (T7.setTop (mkF m 36 #[.val (.ref a1), .val (.ref a2), .val (.int p3), .val (.int p4), .val .null, .unset] [(.int p4), (.int p3), (.ref a2)])) _
    refine st8 _ ?_
    show Steps p.tables e below (T8.setTop (mkF m 39 #[.val (.ref a1), .val (.ref a2), .val (.int p3), .val (.int p4), .val .null, .unset] [(.ref r8_0)])) _
    refine XS.astore X8.here hx rfl (hb hby d8_39) rfl rfl (l' := #[.val (.ref a1), .val (.ref a2), .val (.int p3), .val (.int p4), .val .null, .val (.ref r8_0)]) rfl ?_
    show Steps p.tables e below (T8.setTop (mkF m 41 #[.val (.ref a1), .val (.ref a2), .val (.int p3), .val (.int p4), .val .null, .val (.ref r8_0)] [])) _
    refine XS.aloadN X8.here hx rfl (hb hby d8_41) rfl rfl ?_
    show Steps p.tables e below (T8.setTop (mkF m 42 #[.val (.ref a1), .val (.ref a2), .val (.int p3), .val (.int p4), .val .null, .val (.ref r8_0)] [(.ref a1)])) _
    refine XS.aload X8.here hx rfl (hb hby d8_42) rfl rfl ?_
    show Steps p.tables e below (T8.setTop (mkF m 44 #[.val (.ref a1), .val (.ref a2), .val (.int p3), .val (.int p4), .val .null, .val (.ref r8_0)] [(.ref r8_0), (.ref a1)])) _
    refine XS.iloadN X8.here hx rfl (hb hby d8_44) rfl ?_
    show Steps p.tables e below (T8.setTop (mkF m 45 #[.val (.ref a1), .val (.ref a2), .val (.int p3), .val (.int p4), .val .null, .val (.ref r8_0)] [(.int p4), (.ref r8_0), (.ref a1)])) _
    refine st16 _ ?_
    show Steps p.tables e below (T16.setTop (mkF m 48 #[.val (.ref a1), .val (.ref a2), .val (.int p3), .val (.int p4), .val .null, .val (.ref r8_0)] [(.int (f11 p4 (f9_x0n p3 p4 z_a2 c_a2) (f9_x0c p3 p4 z_a2 c_a2))), (.ref a1)])) _
    refine st17 _ ?_
    show Steps p.tables e below (T17.setTop (mkF m 51 #[.val (.ref a1), .val (.ref a2), .val (.int p3), .val (.int p4), .val .null, .val (.ref r8_0)] [])) _
    refine XS.aloadN X17.here hx rfl (hb hby d8_51) rfl rfl ?_
    show Steps p.tables e below (T17.setTop (mkF m 52 #[.val (.ref a1), .val (.ref a2), .val (.int p3), .val (.int p4), .val .null, .val (.ref r8_0)] [(.ref a1)])) _
    refine XS.aload X17.here hx rfl (hb hby d8_52) rfl rfl ?_
    show Steps p.tables e below (T17.setTop (mkF m 54 #[.val (.ref a1), .val (.ref a2), .val (.int p3), .val (.int p4), .val .null, .val (.ref r8_0)] [(.ref r8_0), (.ref a1)])) _
    refine st26 _ ?_
    show Steps p.tables e below (T26.setTop (mkF m 57 #[.val (.ref a1), .val (.ref a2), .val (.int p3), .val (.int p4), .val .null, .val (.ref r8_0)] [])) _
    exact X26.returnOut hx Bd.returns (hb hby d8_57) hr
  · show Q8 Z a1 a2 p3 p4 w_coder_a1 z_a2 c_a2 w_CS h0 n0 _ T26.heap _
    rw [e26]
    exact ⟨r8_0, rfl, N26, c33, (by rw [eq1]; exact c30), sz_r8_0, (by rw [eq2, eq3]; exact c34), c29⟩
theorem pd_6 : parseMethodDescriptor "([CIILjava/lang/Void;)V" = some ⟨[(.array .char), .int, .int, (.object "java/lang/Void")], none⟩ := by decide +kernel
theorem d7_0 : decode jdk_42_method_3_code 0 = .ok (.aload_n 0, 1) := by decide +kernel
theorem d7_1 : decode jdk_42_method_3_code 1 = .ok (.aload_n 1, 1) := by decide +kernel
theorem d7_2 : decode jdk_42_method_3_code 2 = .ok (.iconst 0, 1) := by decide +kernel
theorem d7_3 : decode jdk_42_method_3_code 3 = .ok (.aload_n 1, 1) := by decide +kernel
theorem d7_4 : decode jdk_42_method_3_code 4 = .ok (.arraylength, 1) := by decide +kernel
theorem d7_5 : decode jdk_42_method_3_code 5 = .ok (.aconst_null, 1) := by decide +kernel
theorem d7_6 : decode jdk_42_method_3_code 6 = .ok (.invokespecial 27, 3) := by decide +kernel
theorem d7_9 : decode jdk_42_method_3_code 9 = .ok (.return_, 1) := by decide +kernel
theorem ef_7 (m : MethodId) (x0 : Addr) (x1 : Addr) : entryFrame m #[(.ref x0), (.ref x1)] 2 = mkF m 0 #[.val (.ref x0), .val (.ref x1)] [] := by first | (simp [entryFrame, mkF, argsToLocals, Value.category]; done) | rfl
def f7_o0 (w_coder_a1 : Int32) (z_a2 : Int32) (c_a2 : Nat → Int32) (w_CS : Int32) : Int32 := (f8_o0 (0 : Int32) z_a2 w_coder_a1 z_a2 c_a2 w_CS)
def f7_x0n (w_coder_a1 : Int32) (z_a2 : Int32) (c_a2 : Nat → Int32) (w_CS : Int32) : Int32 := (f8_x0n (0 : Int32) z_a2 w_coder_a1 z_a2 c_a2 w_CS)
def f7_x0c (w_coder_a1 : Int32) (z_a2 : Int32) (c_a2 : Nat → Int32) (w_CS : Int32) : Nat → Int32 := (f8_x0c (0 : Int32) z_a2 w_coder_a1 z_a2 c_a2 w_CS)
def Q7 (Z : State) (a1 : Addr) (a2 : Addr) (w_coder_a1 : Int32) (z_a2 : Int32) (c_a2 : Nat → Int32) (w_CS : Int32) (h0 : Heap) (n0 : Nat) (v : Option Value) (h : Heap) (L : List Loc) : Prop := ∃ (r0 : Addr), v = none ∧ Fr n0 L ∧ Keep h0 h [a1] ∧ Fld Z h a1 "java/lang/String" "coder" "B" (.int (f7_o0 w_coder_a1 z_a2 c_a2 w_CS)) ∧ h0.size ≤ r0 ∧ IAr Z h r0 .byte (f7_x0n w_coder_a1 z_a2 c_a2 w_CS) (f7_x0c w_coder_a1 z_a2 c_a2 w_CS) ∧ Fld Z h a1 "java/lang/String" "value" "[B" (.ref r0)
set_option maxRecDepth 65536 in
set_option maxHeartbeats 40000000 in
theorem rm7 (l : Launch) (Z : State) (a0 : Array Value) (hw : ∀ d ∈ tables_1, d.before a0 Z = true) (ws : List Jvm.Cond) (a1 : Addr) (a2 : Addr) (w_coder_a1 : Int32) (z_a2 : Int32) (c_a2 : Nat → Int32) (w_CS : Int32) (h0 : Heap) (n0 : Nat) (Z0 : n0 ≤ h0.size) (E_a1 : Exa Z h0 a1 "java/lang/String") (g_a1 : n0 ≤ a1) (F_value_a1 : Fld Z h0 a1 "java/lang/String" "value" "[B" .null) (F_coder_a1 : Fld Z h0 a1 "java/lang/String" "coder" "B" (.int w_coder_a1)) (V_a2 : IAr Z h0 a2 .char z_a2 c_a2) (ne_a1_a2 : a1 ≠ a2) (S_COMPACT_STRINGS : Sta Z h0 "java/lang/String" "COMPACT_STRINGS" "Z" (.int w_CS)) (hcs : ¬ w_CS = 0) (hz : 1 ≤ z_a2.toInt ∧ z_a2.toInt ≤ 3) (hch : ∀ i, 0 ≤ (c_a2 i).toInt ∧ (c_a2 i).toInt < 256) :
    MetFree l (⟨"java/lang/String", "<init>", "([C)V"⟩ : MethodName) (head1 (Jvm.Cond.code (⟨"java/lang/String", "<init>", "([C)V"⟩ : MethodName) jdk_42_method_3_code 2 none :: ws) ({ frames := 3, cells := 1, slots := 3, locals := 52 } : Room)) (fun a U => a = #[(.ref a1), (.ref a2)] ∧ Z.Warmed39 U.vm ∧ U.heap = h0) (fun _ _ _ _ _ => True) (fun _ U o U' => ∃ v L, o = .returned v ∧ Q7 Z a1 a2 w_coder_a1 z_a2 c_a2 w_CS h0 n0 v U'.heap L ∧ FrameEnd U o U' L ({ frames := 3, cells := 1, slots := 3, locals := 52 } : Room).cells ({ frames := 3, cells := 1, slots := 3, locals := 52 } : Room).slots) := by
  refine MetFree.of_bodySF (plainFor_of_name pn_1) hisR ?_
  intro p e s m args below meth c s₁ Bd hml0 hP hK
  obtain ⟨rfl, hZ, hh⟩ := hP
  have hx := Bd.exec
  have hby := Bd.bytes
  have hml : c.maxLocals = 2 := hml0
  have hown : s.vm.findClass "java/lang/String" = some m.cls := findClass_of_methodNamed Bd.named
  have hnm := (name_of_methodNamed Bd.named Bd.method).1
  have X0 : Stand p l e ({ frames := 3, cells := 1, slots := 3, locals := 52 } : Room) s m #[(.ref a1), (.ref a2)] below meth c s₁ [] 0 0 := Stand.of_body Bd
  have e0 : s₁.heap = h0 := by rw [← hh, Bd.state]; rfl
  have N0 := Fr.nil n0
  have pre0 : ∀ t, Steps p.tables e below (s₁.setTop (mkF m 0 #[.val (.ref a1), .val (.ref a2)] [])) t → Steps p.tables e below (s₁.setTop (entryFrame m #[(.ref a1), (.ref a2)] 2)) t := fun t k => castTop (ef_7 m a1 a2) k
  obtain ⟨_, _, ⟨T3, L3, k3, n3⟩, -, X3, ⟨Lc3, hQ3, l3, y3, z3⟩, st3⟩ := X0.specialBack hx (y := (⟨"java/lang/String", "<init>", "([CIILjava/lang/Void;)V"⟩ : MethodName)) rfl hown (mvT hZ (hw _ (List.mem_of_getElem? (i := 77) rfl))) (mvT hZ (hw _ (List.mem_of_getElem? (i := 78) rfl))) (mvT hZ (hw _ (List.mem_of_getElem? (i := 80) rfl))) (by decide) (backOf (W := 0) (rm8 l Z a0 hw [] a1 a2 (0 : Int32) z_a2 w_coder_a1 z_a2 c_a2 w_CS h0 n0 Z0 E_a1 g_a1 F_value_a1 F_coder_a1 V_a2 ne_a1_a2 S_COMPACT_STRINGS hcs rfl hz rfl hch) hZ (hw _ (List.mem_of_getElem? (i := 80) rfl)) (hw _ (List.mem_of_getElem? (i := 6) rfl)) (by decide) (by decide)) (g := (mkF m 6 #[.val (.ref a1), .val (.ref a2)] [.null, (.int z_a2), (.int (0 : Int32)), (.ref a2), (.ref a1)])) rfl (by rw [hml]; rfl) (Steps.refl _) (a := a1) (argsL := [(.ref a2), (.int (0 : Int32)), (.int z_a2), .null]) (rest := []) (lenOf pd_6 rfl) rfl (by show 2 * 0 + _ ≤ _; exact Nat.le_of_eq rfl) (hb hby d7_6) (fun _ _ => ⟨rfl, e0, (by decide : 0 + 1 ≤ _), (by decide : 0 + 3 ≤ _)⟩)
  dsimp only [Pt.U, Pt.locs, Pt.cells, Pt.slots] at X3 l3 y3 z3 st3 hQ3
  subst l3 y3 z3
  obtain ⟨r3_0, rfl, N3q, K3, o3_0, zz3_0, va3_0, vf3_0⟩ := hQ3
  have N3 := Fr.app N0 N3q
  have ne_a1_r3_0 : a1 ≠ r3_0 := Nat.ne_of_lt (Nat.lt_of_lt_of_le E_a1.lt zz3_0)
  have ne_a2_r3_0 : a2 ≠ r3_0 := Nat.ne_of_lt (Nat.lt_of_lt_of_le V_a2.lt zz3_0)
  have g_r3_0 : n0 ≤ r3_0 := Nat.le_trans Z0 zz3_0
  have sz_r3_0 : h0.size ≤ r3_0 := Nat.le_trans (Keep.refl h0 [a1]).1 zz3_0
  have c4 : n0 ≤ T3.heap.size := Nat.le_trans Z0 K3.1
  have c5 : Exa Z T3.heap a1 "java/lang/String" := E_a1.keep K3
  have c6 : Fld Z T3.heap a1 "java/lang/String" "value" "[B" (.ref r3_0) := vf3_0
  have c7 : Fld Z T3.heap a1 "java/lang/String" "coder" "B" (.int (f8_o0 (0 : Int32) z_a2 w_coder_a1 z_a2 c_a2 w_CS)) := o3_0
  have c8 : IAr Z T3.heap a2 .char z_a2 c_a2 := V_a2.keep K3 (ninS (Ne.symm ne_a1_a2) nin0)
  have c9 : Sta Z T3.heap "java/lang/String" "COMPACT_STRINGS" "Z" (.int w_CS) := own_staK S_COMPACT_STRINGS K3 (own_nsS (Exa.nostat E_a1) own_ns0)
  have c10 : Keep h0 T3.heap [a1] := (Keep.refl h0 [a1]).trans K3 (allS (Or.inl (List.mem_of_getElem? (i := 0) rfl)) all0)
  have eq1 : (f7_o0 w_coder_a1 z_a2 c_a2 w_CS) = (f8_o0 (0 : Int32) z_a2 w_coder_a1 z_a2 c_a2 w_CS) := rfl
  have eq2 : (f7_x0n w_coder_a1 z_a2 c_a2 w_CS) = (f8_x0n (0 : Int32) z_a2 w_coder_a1 z_a2 c_a2 w_CS) := rfl
  have eq3 : (f7_x0c w_coder_a1 z_a2 c_a2 w_CS) = (f8_x0c (0 : Int32) z_a2 w_coder_a1 z_a2 c_a2 w_CS) := rfl
  obtain ⟨fs, hr, hrun, hended, hW, hsame⟩ := X3.leave (v := none) (fun _ => rfl)
  refine ⟨_, _, pre0 _ ?_, hrun, hended, _, _, rfl, ?_, ⟨_, rfl⟩, hW, hsame.mono (by decide) (by decide)⟩
  · show Steps p.tables e below (s₁.setTop (mkF m 0 #[.val (.ref a1), .val (.ref a2)] [])) _
    refine XS.aloadN X0.here hx rfl (hb hby d7_0) rfl rfl ?_
    show Steps p.tables e below (s₁.setTop (mkF m 1 #[.val (.ref a1), .val (.ref a2)] [(.ref a1)])) _
    refine XS.aloadN X0.here hx rfl (hb hby d7_1) rfl rfl ?_
    show Steps p.tables e below (s₁.setTop (mkF m 2 #[.val (.ref a1), .val (.ref a2)] [(.ref a2), (.ref a1)])) _
    refine XS.iconst X0.here hx rfl (hb hby d7_2) ?_
    show Steps p.tables e below (s₁.setTop (mkF m 3 #[.val (.ref a1), .val (.ref a2)] [(.int (0 : Int32)), (.ref a2), (.ref a1)])) _
    refine XS.aloadN X0.here hx rfl (hb hby d7_3) rfl rfl ?_
    show Steps p.tables e below (s₁.setTop (mkF m 4 #[.val (.ref a1), .val (.ref a2)] [(.ref a2), (.int (0 : Int32)), (.ref a2), (.ref a1)])) _
    refine alen X0 hx hZ e0 V_a2 (g := (mkF m 4 #[.val (.ref a1), .val (.ref a2)] [(.ref a2), (.int (0 : Int32)), (.ref a2), (.ref a1)])) rfl rfl (hb hby d7_4) ?_
    show Steps p.tables e below (s₁.setTop (mkF m 5 #[.val (.ref a1), .val (.ref a2)] [(.int z_a2), (.int (0 : Int32)), (.ref a2), (.ref a1)])) _
    refine XS.aconstNull X0.here hx rfl (hb hby d7_5) ?_
    show Steps p.tables e below (s₁.setTop (mkF m 6 #[.val (.ref a1), .val (.ref a2)] [.null, (.int z_a2), (.int (0 : Int32)), (.ref a2), (.ref a1)])) _
    refine st3.trans ?_
    show Steps p.tables e below (T3.setTop (mkF m 9 #[.val (.ref a1), .val (.ref a2)] [])) _
    exact X3.returnOut hx Bd.returns (hb hby d7_9) hr
  · show Q7 Z a1 a2 w_coder_a1 z_a2 c_a2 w_CS h0 n0 _ T3.heap _
    exact ⟨r3_0, rfl, N3, c10, (by rw [eq1]; exact c7), sz_r3_0, (by rw [eq2, eq3]; exact va3_0), c6⟩
theorem pd_7 : parseMethodDescriptor "(C)Ljava/lang/String;" = some ⟨[.char], some (.object "java/lang/String")⟩ := by decide +kernel
theorem pd_8 : parseMethodDescriptor "([C)V" = some ⟨[(.array .char)], none⟩ := by decide +kernel
theorem pn_3 : plainName "com/example/titlepoint/titlepoint/FieldDefinitionIsAuthorizedAccessPointPinLaw" = true := by first | (simp [plainName, overriddenIn]; done) | decide +kernel
theorem d1_0 : decode method_2_code 0 = .ok (.iload_n 0, 1) := by decide +kernel
theorem d1_1 : decode method_2_code 1 = .ok (.ifCond .ne 6, 3) := by decide +kernel
theorem d1_7 : decode method_2_code 7 = .ok (.iload_n 0, 1) := by decide +kernel
theorem d1_8 : decode method_2_code 8 = .ok (.iconst 1, 1) := by decide +kernel
theorem d1_9 : decode method_2_code 9 = .ok (.if_icmp .ne 8, 3) := by decide +kernel
theorem d1_12 : decode method_2_code 12 = .ok (.iload_n 1, 1) := by decide +kernel
theorem d1_13 : decode method_2_code 13 = .ok (.invokestatic 9, 3) := by decide +kernel
theorem d1_16 : decode method_2_code 16 = .ok (.areturn, 1) := by decide +kernel
theorem d1_17 : decode method_2_code 17 = .ok (.iload_n 0, 1) := by decide +kernel
theorem d1_18 : decode method_2_code 18 = .ok (.iconst 2, 1) := by decide +kernel
theorem d1_19 : decode method_2_code 19 = .ok (.if_icmp .ne 22, 3) := by decide +kernel
theorem d1_22 : decode method_2_code 22 = .ok (.new 10, 3) := by decide +kernel
theorem d1_25 : decode method_2_code 25 = .ok (.dup, 1) := by decide +kernel
theorem d1_26 : decode method_2_code 26 = .ok (.iconst 2, 1) := by decide +kernel
theorem d1_27 : decode method_2_code 27 = .ok (.newarray .char, 2) := by decide +kernel
theorem d1_29 : decode method_2_code 29 = .ok (.dup, 1) := by decide +kernel
theorem d1_30 : decode method_2_code 30 = .ok (.iconst 0, 1) := by decide +kernel
theorem d1_31 : decode method_2_code 31 = .ok (.iload_n 1, 1) := by decide +kernel
theorem d1_32 : decode method_2_code 32 = .ok (.castore, 1) := by decide +kernel
theorem d1_33 : decode method_2_code 33 = .ok (.dup, 1) := by decide +kernel
theorem d1_34 : decode method_2_code 34 = .ok (.iconst 1, 1) := by decide +kernel
theorem d1_35 : decode method_2_code 35 = .ok (.iload_n 2, 1) := by decide +kernel
theorem d1_36 : decode method_2_code 36 = .ok (.castore, 1) := by decide +kernel
theorem d1_37 : decode method_2_code 37 = .ok (.invokespecial 15, 3) := by decide +kernel
theorem d1_40 : decode method_2_code 40 = .ok (.areturn, 1) := by decide +kernel
theorem d1_41 : decode method_2_code 41 = .ok (.new 10, 3) := by decide +kernel
theorem d1_44 : decode method_2_code 44 = .ok (.dup, 1) := by decide +kernel
theorem d1_45 : decode method_2_code 45 = .ok (.iconst 3, 1) := by decide +kernel
theorem d1_46 : decode method_2_code 46 = .ok (.newarray .char, 2) := by decide +kernel
theorem d1_48 : decode method_2_code 48 = .ok (.dup, 1) := by decide +kernel
theorem d1_49 : decode method_2_code 49 = .ok (.iconst 0, 1) := by decide +kernel
theorem d1_50 : decode method_2_code 50 = .ok (.iload_n 1, 1) := by decide +kernel
theorem d1_51 : decode method_2_code 51 = .ok (.castore, 1) := by decide +kernel
theorem d1_52 : decode method_2_code 52 = .ok (.dup, 1) := by decide +kernel
theorem d1_53 : decode method_2_code 53 = .ok (.iconst 1, 1) := by decide +kernel
theorem d1_54 : decode method_2_code 54 = .ok (.iload_n 2, 1) := by decide +kernel
theorem d1_55 : decode method_2_code 55 = .ok (.castore, 1) := by decide +kernel
theorem d1_56 : decode method_2_code 56 = .ok (.dup, 1) := by decide +kernel
theorem d1_57 : decode method_2_code 57 = .ok (.iconst 2, 1) := by decide +kernel
theorem d1_58 : decode method_2_code 58 = .ok (.iload_n 3, 1) := by decide +kernel
theorem d1_59 : decode method_2_code 59 = .ok (.castore, 1) := by decide +kernel
theorem d1_60 : decode method_2_code 60 = .ok (.invokespecial 15, 3) := by decide +kernel
theorem d1_63 : decode method_2_code 63 = .ok (.areturn, 1) := by decide +kernel
theorem ef_1 (m : MethodId) (x0 : Int32) (x1 : Int32) (x2 : Int32) (x3 : Int32) : entryFrame m #[(.int x0), (.int x1), (.int x2), (.int x3)] 4 = mkF m 0 #[.val (.int x0), .val (.int x1), .val (.int x2), .val (.int x3)] [] := by first | (simp [entryFrame, mkF, argsToLocals, Value.category]; done) | rfl
def f1_v32 (p2 : Int32) : Nat → Int32 := (ownU (fun _ => 0) ((0 : Int32)).toNatClampNeg (nar .char p2))
def f1_v36 (p2 : Int32) (p3 : Int32) : Nat → Int32 := (ownU (f1_v32 p2) ((1 : Int32)).toNatClampNeg (nar .char p3))
def f1_v51 (p2 : Int32) : Nat → Int32 := (ownU (fun _ => 0) ((0 : Int32)).toNatClampNeg (nar .char p2))
def f1_v55 (p2 : Int32) (p3 : Int32) : Nat → Int32 := (ownU (f1_v51 p2) ((1 : Int32)).toNatClampNeg (nar .char p3))
def f1_v59 (p2 : Int32) (p3 : Int32) (p4 : Int32) : Nat → Int32 := (ownU (f1_v55 p2 p3) ((2 : Int32)).toNatClampNeg (nar .char p4))
theorem own_ch2 {p2 p3 p4 : Int32} (h : (0 ≤ p2.toInt ∧ p2.toInt < 256) ∧ (0 ≤ p3.toInt ∧ p3.toInt < 256) ∧ (0 ≤ p4.toInt ∧ p4.toInt < 256)) : ∀ i, 0 ≤ (f1_v36 p2 p3 i).toInt ∧ (f1_v36 p2 p3 i).toInt < 256 := own_chU (own_chU (fun _ => by decide) _ h.1) _ h.2.1
theorem own_ch3 {p2 p3 p4 : Int32} (h : (0 ≤ p2.toInt ∧ p2.toInt < 256) ∧ (0 ≤ p3.toInt ∧ p3.toInt < 256) ∧ (0 ≤ p4.toInt ∧ p4.toInt < 256)) : ∀ i, 0 ≤ (f1_v59 p2 p3 p4 i).toInt ∧ (f1_v59 p2 p3 p4 i).toInt < 256 := own_chU (own_chU (own_chU (fun _ => by decide) _ h.1) _ h.2.1) _ h.2.2
def f1_x1n (p1 : Int32) (p2 : Int32) (p3 : Int32) (p4 : Int32) (w_CS : Int32) : Int32 := (if p1 = (1 : Int32) then (f12_x1n p2 w_CS) else (if p1 = (2 : Int32) then (f7_x0n (0 : Int32) (2 : Int32) (f1_v36 p2 p3) w_CS) else (f7_x0n (0 : Int32) (3 : Int32) (f1_v59 p2 p3 p4) w_CS)))
def f1_x1c (p1 : Int32) (p2 : Int32) (p3 : Int32) (p4 : Int32) (w_CS : Int32) : Nat → Int32 := (if p1 = (1 : Int32) then (f12_x1c p2 w_CS) else (if p1 = (2 : Int32) then (f7_x0c (0 : Int32) (2 : Int32) (f1_v36 p2 p3) w_CS) else (f7_x0c (0 : Int32) (3 : Int32) (f1_v59 p2 p3 p4) w_CS)))
def Q1 (Z : State) (p1 : Int32) (p2 : Int32) (p3 : Int32) (p4 : Int32) (w_CS : Int32) (h0 : Heap) (n0 : Nat) (v : Option Value) (h : Heap) (L : List Loc) : Prop := ∃ (r0 : Addr) (r1 : Addr), v = some (.ref r0) ∧ Fr n0 L ∧ Keep h0 h [] ∧ Exa Z h r0 "java/lang/String" ∧ IAr Z h r1 .byte (f1_x1n p1 p2 p3 p4 w_CS) (f1_x1c p1 p2 p3 p4 w_CS) ∧ Fld Z h r0 "java/lang/String" "value" "[B" (.ref r1)
set_option maxRecDepth 65536 in
set_option maxHeartbeats 40000000 in
theorem rm1 (l : Launch) (Z : State) (a0 : Array Value) (hw : ∀ d ∈ tables_1, d.before a0 Z = true) (ws : List Jvm.Cond) (p1 : Int32) (p2 : Int32) (p3 : Int32) (p4 : Int32) (w_CS : Int32) (h0 : Heap) (n0 : Nat) (Z0 : n0 ≤ h0.size) (S_COMPACT_STRINGS : Sta Z h0 "java/lang/String" "COMPACT_STRINGS" "Z" (.int w_CS)) (hcs : ¬ w_CS = 0) (kn : ¬ p1 = 0) (hbb : (0 ≤ p2.toInt ∧ p2.toInt < 256) ∧ (0 ≤ p3.toInt ∧ p3.toInt < 256) ∧ (0 ≤ p4.toInt ∧ p4.toInt < 256)) :
    MetFree l (⟨"com/example/titlepoint/titlepoint/FieldDefinitionIsAuthorizedAccessPointPinLaw", "drawn", "(ICCC)Ljava/lang/String;"⟩ : MethodName) (head1 (Jvm.Cond.code (⟨"com/example/titlepoint/titlepoint/FieldDefinitionIsAuthorizedAccessPointPinLaw", "drawn", "(ICCC)Ljava/lang/String;"⟩ : MethodName) method_2_code 4 (some (.object "java/lang/String")) :: ws) ({ frames := 4, cells := 3, slots := 20, locals := 66 } : Room)) (fun a U => a = #[(.int p1), (.int p2), (.int p3), (.int p4)] ∧ Z.Warmed39 U.vm ∧ U.heap = h0) (fun _ _ _ _ _ => True) (fun _ U o U' => ∃ v L, o = .returned v ∧ Q1 Z p1 p2 p3 p4 w_CS h0 n0 v U'.heap L ∧ FrameEnd U o U' L ({ frames := 4, cells := 3, slots := 20, locals := 66 } : Room).cells ({ frames := 4, cells := 3, slots := 20, locals := 66 } : Room).slots) := by
  refine MetFree.of_bodySF (plainFor_of_name pn_3) hisR ?_
  intro p e s m args below meth c s₁ Bd hml0 hP hK
  obtain ⟨rfl, hZ, hh⟩ := hP
  have hx := Bd.exec
  have hby := Bd.bytes
  have hml : c.maxLocals = 4 := hml0
  have hown : s.vm.findClass "com/example/titlepoint/titlepoint/FieldDefinitionIsAuthorizedAccessPointPinLaw" = some m.cls := findClass_of_methodNamed Bd.named
  have hnm := (name_of_methodNamed Bd.named Bd.method).1
  have X0 : Stand p l e ({ frames := 4, cells := 3, slots := 20, locals := 66 } : Room) s m #[(.int p1), (.int p2), (.int p3), (.int p4)] below meth c s₁ [] 0 0 := Stand.of_body Bd
  have e0 : s₁.heap = h0 := by rw [← hh, Bd.state]; rfl
  have N0 := Fr.nil n0
  have pre0 : ∀ t, Steps p.tables e below (s₁.setTop (mkF m 0 #[.val (.int p1), .val (.int p2), .val (.int p3), .val (.int p4)] [])) t → Steps p.tables e below (s₁.setTop (entryFrame m #[(.int p1), (.int p2), (.int p3), (.int p4)] 4)) t := fun t k => castTop (ef_1 m p1 p2 p3 p4) k
  have pre1 : ∀ t, Steps p.tables e below (s₁.setTop (mkF m 9 #[.val (.int p1), .val (.int p2), .val (.int p3), .val (.int p4)] [(.int (1 : Int32)), (.int p1)])) t → Steps p.tables e below (s₁.setTop (entryFrame m #[(.int p1), (.int p2), (.int p3), (.int p4)] 4)) t := by
    intro t k
    refine pre0 t ?_
    show Steps p.tables e below (s₁.setTop (mkF m 0 #[.val (.int p1), .val (.int p2), .val (.int p3), .val (.int p4)] [])) _
    refine XS.iloadN X0.here hx rfl (hb hby d1_0) rfl ?_
    show Steps p.tables e below (s₁.setTop (mkF m 1 #[.val (.int p1), .val (.int p2), .val (.int p3), .val (.int p4)] [(.int p1)])) _
    refine XS.ifYes X0.here hx rfl (pc0 := 1) (pc' := 7) rfl (hb hby d1_1) rfl ((if0 _ _).trans (feq (kn : ¬ (p1 = (0 : Int32)))).2) (by decide) (by decide) ?_
    show Steps p.tables e below (s₁.setTop (mkF m 7 #[.val (.int p1), .val (.int p2), .val (.int p3), .val (.int p4)] [])) _
    refine XS.iloadN X0.here hx rfl (hb hby d1_7) rfl ?_
    show Steps p.tables e below (s₁.setTop (mkF m 8 #[.val (.int p1), .val (.int p2), .val (.int p3), .val (.int p4)] [(.int p1)])) _
    refine XS.iconst X0.here hx rfl (hb hby d1_8) ?_
    exact k
  by_cases hc9 : p1 = (1 : Int32)
  · obtain ⟨_, _, ⟨T5, L5, k5, n5⟩, -, X5, ⟨Lc5, hQ5, l5, y5, z5⟩, st5⟩ := Jvm.LawKit.callS X0 hx (y := (⟨"java/lang/String", "valueOf", "(C)Ljava/lang/String;"⟩ : MethodName)) hown (mvT hZ (hw _ (List.mem_of_getElem? (i := 94) rfl))) (mvT hZ (hw _ (List.mem_of_getElem? (i := 95) rfl))) (mvT hZ (hw _ (List.mem_of_getElem? (i := 6) rfl))) (mvT hZ (hw _ (List.mem_of_getElem? (i := 96) rfl))) (by decide) (backOf (W := 0) (rm12 l Z a0 hw [] p2 w_CS h0 n0 Z0 S_COMPACT_STRINGS hcs (own_n255 hbb.1)) hZ (hw _ (List.mem_of_getElem? (i := 96) rfl)) (hw _ (List.mem_of_getElem? (i := 6) rfl)) (by decide) (by decide)) (g := (mkF m 13 #[.val (.int p1), .val (.int p2), .val (.int p3), .val (.int p4)] [(.int p2)])) rfl (by rw [hml]; rfl) (argsL := [(.int p2)]) (rest := []) (lenOf pd_7 rfl) rfl (by show 2 * 0 + _ ≤ _; exact Nat.le_of_eq rfl) (hb hby d1_13) (fun _ _ => ⟨rfl, e0, (by decide : 0 + 2 ≤ _), (by decide : 0 + 5 ≤ _)⟩)
    dsimp only [Pt.U, Pt.locs, Pt.cells, Pt.slots] at X5 l5 y5 z5 st5 hQ5
    subst l5 y5 z5
    obtain ⟨r5_0, r5_1, rfl, N5q, K5, ve5_0, va5_1, vf5_1⟩ := hQ5
    have N5 := Fr.app N0 N5q
    have c6 : n0 ≤ T5.heap.size := Nat.le_trans Z0 K5.1
    have c7 : Sta Z T5.heap "java/lang/String" "COMPACT_STRINGS" "Z" (.int w_CS) := own_staK0 S_COMPACT_STRINGS K5
    have c8 : Keep h0 T5.heap [] := (Keep.refl h0 []).trans K5 all0
    have eq2 : (f1_x1n p1 p2 p3 p4 w_CS) = (f12_x1n p2 w_CS) := by unfold f1_x1n; simp only [if_pos hc9]
    have eq3 : (f1_x1c p1 p2 p3 p4 w_CS) = (f12_x1c p2 w_CS) := by unfold f1_x1c; simp only [if_pos hc9]
    obtain ⟨fs, hr, hrun, hended, hW, hsame⟩ := X5.leave (v := some (.ref r5_0)) (fun h => by rw [Bd.returns] at h; cases h)
    refine ⟨_, _, pre1 _ ?_, hrun, hended, _, _, rfl, ?_, ⟨_, rfl⟩, hW, hsame.mono (by decide) (by decide)⟩
    · show Steps p.tables e below (s₁.setTop (mkF m 9 #[.val (.int p1), .val (.int p2), .val (.int p3), .val (.int p4)] [(.int (1 : Int32)), (.int p1)])) _
      refine XS.icmpNo X0.here hx rfl (hb hby d1_9) rfl (teq hc9).2 ?_
      show Steps p.tables e below (s₁.setTop (mkF m 12 #[.val (.int p1), .val (.int p2), .val (.int p3), .val (.int p4)] [])) _
      refine XS.iloadN X0.here hx rfl (hb hby d1_12) rfl ?_
      show Steps p.tables e below (s₁.setTop (mkF m 13 #[.val (.int p1), .val (.int p2), .val (.int p3), .val (.int p4)] [(.int p2)])) _
      refine st5 _ ?_
      show Steps p.tables e below (T5.setTop (mkF m 16 #[.val (.int p1), .val (.int p2), .val (.int p3), .val (.int p4)] [(.ref r5_0)])) _
      jvm_step X5.here [X5.here.top, hx, (hb hby d1_16), X5.method', Bd.returns, Value.isRef, FieldType.isReference]
      first | (intro acts; rw [hr _ acts rfl rfl rfl]) | rw [hr _ _ rfl rfl rfl]
      exact Steps.refl _
    · show Q1 Z p1 p2 p3 p4 w_CS h0 n0 _ T5.heap _
      exact ⟨r5_0, r5_1, rfl, N5, c8, ve5_0, (by rw [eq2, eq3]; exact va5_1), vf5_1⟩
  · have pre4 : ∀ t, Steps p.tables e below (s₁.setTop (mkF m 19 #[.val (.int p1), .val (.int p2), .val (.int p3), .val (.int p4)] [(.int (2 : Int32)), (.int p1)])) t → Steps p.tables e below (s₁.setTop (entryFrame m #[(.int p1), (.int p2), (.int p3), (.int p4)] 4)) t := by
      intro t k
      refine pre1 t ?_
      show Steps p.tables e below (s₁.setTop (mkF m 9 #[.val (.int p1), .val (.int p2), .val (.int p3), .val (.int p4)] [(.int (1 : Int32)), (.int p1)])) _
      refine XS.icmpYes X0.here hx rfl (pc0 := 9) (pc' := 17) rfl (hb hby d1_9) rfl (feq hc9).2 (by decide) (by decide) ?_
      show Steps p.tables e below (s₁.setTop (mkF m 17 #[.val (.int p1), .val (.int p2), .val (.int p3), .val (.int p4)] [])) _
      refine XS.iloadN X0.here hx rfl (hb hby d1_17) rfl ?_
      show Steps p.tables e below (s₁.setTop (mkF m 18 #[.val (.int p1), .val (.int p2), .val (.int p3), .val (.int p4)] [(.int p1)])) _
      refine XS.iconst X0.here hx rfl (hb hby d1_18) ?_
      exact k
    by_cases hc19 : p1 = (2 : Int32)
    · obtain ⟨T9, h9, X9, e9, E9, A9, D9, -, st9⟩ := newO X0 hx hZ hown (hw _ (List.mem_of_getElem? (i := 72) rfl)) (hw _ (List.mem_of_getElem? (i := 7) rfl)) (hw _ (List.mem_of_getElem? (i := 6) rfl)) e0 (g := (mkF m 22 #[.val (.int p1), .val (.int p2), .val (.int p3), .val (.int p4)] [])) rfl (hb hby d1_22) (by decide) (by decide)
      obtain ⟨b9, g9⟩ : ∃ z, z = h0.size := ⟨_, rfl⟩
      rw [← g9] at A9 D9 st9
      have g_b9 : n0 ≤ b9 := Nat.le_trans Z0 (Nat.le_of_eq g9.symm)
      have sz_b9 : h0.size ≤ b9 := Nat.le_trans (Keep.refl h0 []).1 (Nat.le_of_eq g9.symm)
      have c10 : n0 ≤ h9.size := Nat.le_trans Z0 E9.1
      have c11 : Sta Z h9 "java/lang/String" "COMPACT_STRINGS" "Z" (.int w_CS) := S_COMPACT_STRINGS.ext E9
      have c12 : Keep h0 h9 [] := (Keep.refl h0 []).ext E9
      have c13 : Fld Z h9 b9 "java/lang/String" "value" "[B" .null := D9 (Or.inr (hw _ (List.mem_of_getElem? (i := 9) rfl))) (ty := (.array .byte)) (by decide)
      have c14 : Fld Z h9 b9 "java/lang/String" "coder" "B" (.int (0 : Int32)) := D9 (Or.inr (hw _ (List.mem_of_getElem? (i := 10) rfl))) (ty := .byte) (by decide)
      obtain ⟨T15, h15, k15, X15, e15, E15, A15, st15⟩ := newP X9 hx hZ (hw _ (List.mem_of_getElem? (i := 73) rfl)) e9 (g := (mkF m 27 #[.val (.int p1), .val (.int p2), .val (.int p3), .val (.int p4)] [(.int (2 : Int32)), (.ref b9), (.ref b9)])) rfl (hb hby d1_27) rfl (by decide) (cap := 2) (by decide) (by decide) (by decide) (by decide)
      obtain ⟨b15, g15⟩ : ∃ z, z = h9.size := ⟨_, rfl⟩
      rw [← g15] at A15 st15
      have ne_b9_b15 : b9 ≠ b15 := Nat.ne_of_lt (Nat.lt_of_lt_of_le A9.lt (Nat.le_of_eq g15.symm))
      have g_b15 : n0 ≤ b15 := Nat.le_trans c10 (Nat.le_of_eq g15.symm)
      have sz_b15 : h0.size ≤ b15 := Nat.le_trans c12.1 (Nat.le_of_eq g15.symm)
      have c16 : n0 ≤ h15.size := Nat.le_trans c10 E15.1
      have c17 : Sta Z h15 "java/lang/String" "COMPACT_STRINGS" "Z" (.int w_CS) := c11.ext E15
      have c18 : Keep h0 h15 [] := c12.ext E15
      have c19 : Exa Z h15 b9 "java/lang/String" := A9.ext E15
      have c20 : Fld Z h15 b9 "java/lang/String" "value" "[B" .null := c13.ext E15
      have c21 : Fld Z h15 b9 "java/lang/String" "coder" "B" (.int (0 : Int32)) := c14.ext E15
      have c22 : IAr Z h15 b15 .char (2 : Int32) (fun _ => 0) := IAr.new A15 (by decide) rfl
      obtain ⟨T23, h23, X23, e23, W23, V23, st23⟩ := sC X15 hx hZ e15 c22 (j := (0 : Int32)) ⟨by decide, by first | decide | assumption⟩ (g := (mkF m 32 #[.val (.int p1), .val (.int p2), .val (.int p3), .val (.int p4)] [(.int p2), (.int (0 : Int32)), (.ref b15), (.ref b15), (.ref b9), (.ref b9)])) rfl rfl (hb hby d1_32)
      have N23 := Fr.snoc X23 N0 g_b15
      have c24 : n0 ≤ h23.size := Nat.le_trans c16 (Keep.of_wr W23).1
      have c25 : Sta Z h23 "java/lang/String" "COMPACT_STRINGS" "Z" (.int w_CS) := c17.wr W23
      have c26 : Keep h0 h23 [] := c18.wr W23 (Or.inr sz_b15)
      have c27 : Exa Z h23 b9 "java/lang/String" := c19.wr W23
      have c28 : Fld Z h23 b9 "java/lang/String" "value" "[B" .null := c20.other W23 (Or.inl ne_b9_b15)
      have c29 : Fld Z h23 b9 "java/lang/String" "coder" "B" (.int (0 : Int32)) := c21.other W23 (Or.inl ne_b9_b15)
      have c30 : IAr Z h23 b15 .char (2 : Int32) (f1_v32 p2) := V23
      obtain ⟨T31, h31, X31, e31, W31, V31, st31⟩ := sC X23 hx hZ e23 c30 (j := (1 : Int32)) ⟨by decide, by first | decide | assumption⟩ (g := (mkF m 36 #[.val (.int p1), .val (.int p2), .val (.int p3), .val (.int p4)] [(.int p3), (.int (1 : Int32)), (.ref b15), (.ref b15), (.ref b9), (.ref b9)])) rfl rfl (hb hby d1_36)
      have N31 := Fr.snoc X31 N23 g_b15
      have c32 : n0 ≤ h31.size := Nat.le_trans c24 (Keep.of_wr W31).1
      have c33 : Sta Z h31 "java/lang/String" "COMPACT_STRINGS" "Z" (.int w_CS) := c25.wr W31
      have c34 : Keep h0 h31 [] := c26.wr W31 (Or.inr sz_b15)
      have c35 : Exa Z h31 b9 "java/lang/String" := c27.wr W31
      have c36 : Fld Z h31 b9 "java/lang/String" "value" "[B" .null := c28.other W31 (Or.inl ne_b9_b15)
      have c37 : Fld Z h31 b9 "java/lang/String" "coder" "B" (.int (0 : Int32)) := c29.other W31 (Or.inl ne_b9_b15)
      have c38 : IAr Z h31 b15 .char (2 : Int32) (f1_v36 p2 p3) := V31
      obtain ⟨_, _, ⟨T39, L39, k39, n39⟩, -, X39, ⟨Lc39, hQ39, l39, y39, z39⟩, st39⟩ := X31.specialBack hx (y := (⟨"java/lang/String", "<init>", "([C)V"⟩ : MethodName)) rfl hown (mvT hZ (hw _ (List.mem_of_getElem? (i := 74) rfl))) (mvT hZ (hw _ (List.mem_of_getElem? (i := 75) rfl))) (mvT hZ (hw _ (List.mem_of_getElem? (i := 76) rfl))) (by decide) (backOf (W := 1) (rm7 l Z a0 hw [] b9 b15 (0 : Int32) (2 : Int32) (f1_v36 p2 p3) w_CS h31 n0 c32 c35 g_b9 c36 c37 c38 ne_b9_b15 c33 hcs ⟨by decide, by decide⟩ (own_ch2 hbb)) hZ (hw _ (List.mem_of_getElem? (i := 76) rfl)) (hw _ (List.mem_of_getElem? (i := 6) rfl)) (by decide) (by decide)) (g := (mkF m 37 #[.val (.int p1), .val (.int p2), .val (.int p3), .val (.int p4)] [(.ref b15), (.ref b9), (.ref b9)])) rfl (by rw [hml]; rfl) (Steps.refl _) (a := b9) (argsL := [(.ref b15)]) (rest := [(.ref b9)]) (lenOf pd_8 rfl) rfl (by show 2 * 0 + _ ≤ _; exact Nat.le_of_eq rfl) (hb hby d1_37) (fun _ _ => ⟨rfl, e31, (by decide : 2 + 1 ≤ _), (by decide : 6 + 3 ≤ _)⟩)
      dsimp only [Pt.U, Pt.locs, Pt.cells, Pt.slots] at X39 l39 y39 z39 st39 hQ39
      subst l39 y39 z39
      obtain ⟨r39_0, rfl, N39q, K39, o39_0, zz39_0, va39_0, vf39_0⟩ := hQ39
      have N39 := Fr.app N31 N39q
      have ne_b9_r39_0 : b9 ≠ r39_0 := Nat.ne_of_lt (Nat.lt_of_lt_of_le c35.lt zz39_0)
      have ne_b15_r39_0 : b15 ≠ r39_0 := Nat.ne_of_lt (Nat.lt_of_lt_of_le c38.lt zz39_0)
      have g_r39_0 : n0 ≤ r39_0 := Nat.le_trans c32 zz39_0
      have sz_r39_0 : h0.size ≤ r39_0 := Nat.le_trans c34.1 zz39_0
      have c40 : n0 ≤ T39.heap.size := Nat.le_trans c32 K39.1
      have c41 : Sta Z T39.heap "java/lang/String" "COMPACT_STRINGS" "Z" (.int w_CS) := own_staK c33 K39 (own_nsS (Exa.nostat c35) own_ns0)
      have c42 : Keep h0 T39.heap [] := c34.trans K39 (allS (Or.inr sz_b9) all0)
      have c43 : Exa Z T39.heap b9 "java/lang/String" := c35.keep K39
      have c44 : Fld Z T39.heap b9 "java/lang/String" "value" "[B" (.ref r39_0) := vf39_0
      have c45 : Fld Z T39.heap b9 "java/lang/String" "coder" "B" (.int (f7_o0 (0 : Int32) (2 : Int32) (f1_v36 p2 p3) w_CS)) := o39_0
      have c46 : IAr Z T39.heap b15 .char (2 : Int32) (f1_v36 p2 p3) := c38.keep K39 (ninS (Ne.symm ne_b9_b15) nin0)
      have eq5 : (f1_x1n p1 p2 p3 p4 w_CS) = (f7_x0n (0 : Int32) (2 : Int32) (f1_v36 p2 p3) w_CS) := by unfold f1_x1n; simp only [if_neg hc9, if_pos hc19]
      have eq6 : (f1_x1c p1 p2 p3 p4 w_CS) = (f7_x0c (0 : Int32) (2 : Int32) (f1_v36 p2 p3) w_CS) := by unfold f1_x1c; simp only [if_neg hc9, if_pos hc19]
      obtain ⟨fs, hr, hrun, hended, hW, hsame⟩ := X39.leave (v := some (.ref b9)) (fun h => by rw [Bd.returns] at h; cases h)
      refine ⟨_, _, pre4 _ ?_, hrun, hended, _, _, rfl, ?_, ⟨_, rfl⟩, hW, hsame.mono (by decide) (by decide)⟩
      · show Steps p.tables e below (s₁.setTop (mkF m 19 #[.val (.int p1), .val (.int p2), .val (.int p3), .val (.int p4)] [(.int (2 : Int32)), (.int p1)])) _
        refine XS.icmpNo X0.here hx rfl (hb hby d1_19) rfl (teq hc19).2 ?_
        show Steps p.tables e below (s₁.setTop (mkF m 22 #[.val (.int p1), .val (.int p2), .val (.int p3), .val (.int p4)] [])) _
        refine st9 _ ?_
        show Steps p.tables e below (T9.setTop (mkF m 25 #[.val (.int p1), .val (.int p2), .val (.int p3), .val (.int p4)] [(.ref b9)])) _
        refine XS.dup X9.here hx rfl (hb hby d1_25) rfl rfl ?_
        show Steps p.tables e below (T9.setTop (mkF m 26 #[.val (.int p1), .val (.int p2), .val (.int p3), .val (.int p4)] [(.ref b9), (.ref b9)])) _
        refine XS.iconst X9.here hx rfl (hb hby d1_26) ?_
        show Steps p.tables e below (T9.setTop (mkF m 27 #[.val (.int p1), .val (.int p2), .val (.int p3), .val (.int p4)] [(.int (2 : Int32)), (.ref b9), (.ref b9)])) _
        refine st15 _ ?_
        show Steps p.tables e below (T15.setTop (mkF m 29 #[.val (.int p1), .val (.int p2), .val (.int p3), .val (.int p4)] [(.ref b15), (.ref b9), (.ref b9)])) _
        refine XS.dup X15.here hx rfl (hb hby d1_29) rfl rfl ?_
        show Steps p.tables e below (T15.setTop (mkF m 30 #[.val (.int p1), .val (.int p2), .val (.int p3), .val (.int p4)] [(.ref b15), (.ref b15), (.ref b9), (.ref b9)])) _
        refine XS.iconst X15.here hx rfl (hb hby d1_30) ?_
        show Steps p.tables e below (T15.setTop (mkF m 31 #[.val (.int p1), .val (.int p2), .val (.int p3), .val (.int p4)] [(.int (0 : Int32)), (.ref b15), (.ref b15), (.ref b9), (.ref b9)])) _
        refine XS.iloadN X15.here hx rfl (hb hby d1_31) rfl ?_
        show Steps p.tables e below (T15.setTop (mkF m 32 #[.val (.int p1), .val (.int p2), .val (.int p3), .val (.int p4)] [(.int p2), (.int (0 : Int32)), (.ref b15), (.ref b15), (.ref b9), (.ref b9)])) _
        refine st23 _ ?_
        show Steps p.tables e below (T23.setTop (mkF m 33 #[.val (.int p1), .val (.int p2), .val (.int p3), .val (.int p4)] [(.ref b15), (.ref b9), (.ref b9)])) _
        refine XS.dup X23.here hx rfl (hb hby d1_33) rfl rfl ?_
        show Steps p.tables e below (T23.setTop (mkF m 34 #[.val (.int p1), .val (.int p2), .val (.int p3), .val (.int p4)] [(.ref b15), (.ref b15), (.ref b9), (.ref b9)])) _
        refine XS.iconst X23.here hx rfl (hb hby d1_34) ?_
        show Steps p.tables e below (T23.setTop (mkF m 35 #[.val (.int p1), .val (.int p2), .val (.int p3), .val (.int p4)] [(.int (1 : Int32)), (.ref b15), (.ref b15), (.ref b9), (.ref b9)])) _
        refine XS.iloadN X23.here hx rfl (hb hby d1_35) rfl ?_
        show Steps p.tables e below (T23.setTop (mkF m 36 #[.val (.int p1), .val (.int p2), .val (.int p3), .val (.int p4)] [(.int p3), (.int (1 : Int32)), (.ref b15), (.ref b15), (.ref b9), (.ref b9)])) _
        refine st31 _ ?_
        show Steps p.tables e below (T31.setTop (mkF m 37 #[.val (.int p1), .val (.int p2), .val (.int p3), .val (.int p4)] [(.ref b15), (.ref b9), (.ref b9)])) _
        refine st39.trans ?_
        show Steps p.tables e below (T39.setTop (mkF m 40 #[.val (.int p1), .val (.int p2), .val (.int p3), .val (.int p4)] [(.ref b9)])) _
        jvm_step X39.here [X39.here.top, hx, (hb hby d1_40), X39.method', Bd.returns, Value.isRef, FieldType.isReference]
        first | (intro acts; rw [hr _ acts rfl rfl rfl]) | rw [hr _ _ rfl rfl rfl]
        exact Steps.refl _
      · show Q1 Z p1 p2 p3 p4 w_CS h0 n0 _ T39.heap _
        exact ⟨b9, r39_0, rfl, N39, c42, c43, (by rw [eq5, eq6]; exact va39_0), c44⟩
    · obtain ⟨T47, h47, X47, e47, E47, A47, D47, -, st47⟩ := newO X0 hx hZ hown (hw _ (List.mem_of_getElem? (i := 72) rfl)) (hw _ (List.mem_of_getElem? (i := 7) rfl)) (hw _ (List.mem_of_getElem? (i := 6) rfl)) e0 (g := (mkF m 41 #[.val (.int p1), .val (.int p2), .val (.int p3), .val (.int p4)] [])) rfl (hb hby d1_41) (by decide) (by decide)
      obtain ⟨b47, g47⟩ : ∃ z, z = h0.size := ⟨_, rfl⟩
      rw [← g47] at A47 D47 st47
      have g_b47 : n0 ≤ b47 := Nat.le_trans Z0 (Nat.le_of_eq g47.symm)
      have sz_b47 : h0.size ≤ b47 := Nat.le_trans (Keep.refl h0 []).1 (Nat.le_of_eq g47.symm)
      have c48 : n0 ≤ h47.size := Nat.le_trans Z0 E47.1
      have c49 : Sta Z h47 "java/lang/String" "COMPACT_STRINGS" "Z" (.int w_CS) := S_COMPACT_STRINGS.ext E47
      have c50 : Keep h0 h47 [] := (Keep.refl h0 []).ext E47
      have c51 : Fld Z h47 b47 "java/lang/String" "value" "[B" .null := D47 (Or.inr (hw _ (List.mem_of_getElem? (i := 9) rfl))) (ty := (.array .byte)) (by decide)
      have c52 : Fld Z h47 b47 "java/lang/String" "coder" "B" (.int (0 : Int32)) := D47 (Or.inr (hw _ (List.mem_of_getElem? (i := 10) rfl))) (ty := .byte) (by decide)
      obtain ⟨T53, h53, k53, X53, e53, E53, A53, st53⟩ := newP X47 hx hZ (hw _ (List.mem_of_getElem? (i := 73) rfl)) e47 (g := (mkF m 46 #[.val (.int p1), .val (.int p2), .val (.int p3), .val (.int p4)] [(.int (3 : Int32)), (.ref b47), (.ref b47)])) rfl (hb hby d1_46) rfl (by decide) (cap := 3) (by decide) (by decide) (by decide) (by decide)
      obtain ⟨b53, g53⟩ : ∃ z, z = h47.size := ⟨_, rfl⟩
      rw [← g53] at A53 st53
      have ne_b47_b53 : b47 ≠ b53 := Nat.ne_of_lt (Nat.lt_of_lt_of_le A47.lt (Nat.le_of_eq g53.symm))
      have g_b53 : n0 ≤ b53 := Nat.le_trans c48 (Nat.le_of_eq g53.symm)
      have sz_b53 : h0.size ≤ b53 := Nat.le_trans c50.1 (Nat.le_of_eq g53.symm)
      have c54 : n0 ≤ h53.size := Nat.le_trans c48 E53.1
      have c55 : Sta Z h53 "java/lang/String" "COMPACT_STRINGS" "Z" (.int w_CS) := c49.ext E53
      have c56 : Keep h0 h53 [] := c50.ext E53
      have c57 : Exa Z h53 b47 "java/lang/String" := A47.ext E53
      have c58 : Fld Z h53 b47 "java/lang/String" "value" "[B" .null := c51.ext E53
      have c59 : Fld Z h53 b47 "java/lang/String" "coder" "B" (.int (0 : Int32)) := c52.ext E53
      have c60 : IAr Z h53 b53 .char (3 : Int32) (fun _ => 0) := IAr.new A53 (by decide) rfl
      obtain ⟨T61, h61, X61, e61, W61, V61, st61⟩ := sC X53 hx hZ e53 c60 (j := (0 : Int32)) ⟨by decide, by first | decide | assumption⟩ (g := (mkF m 51 #[.val (.int p1), .val (.int p2), .val (.int p3), .val (.int p4)] [(.int p2), (.int (0 : Int32)), (.ref b53), (.ref b53), (.ref b47), (.ref b47)])) rfl rfl (hb hby d1_51)
      have N61 := Fr.snoc X61 N0 g_b53
      have c62 : n0 ≤ h61.size := Nat.le_trans c54 (Keep.of_wr W61).1
      have c63 : Sta Z h61 "java/lang/String" "COMPACT_STRINGS" "Z" (.int w_CS) := c55.wr W61
      have c64 : Keep h0 h61 [] := c56.wr W61 (Or.inr sz_b53)
      have c65 : Exa Z h61 b47 "java/lang/String" := c57.wr W61
      have c66 : Fld Z h61 b47 "java/lang/String" "value" "[B" .null := c58.other W61 (Or.inl ne_b47_b53)
      have c67 : Fld Z h61 b47 "java/lang/String" "coder" "B" (.int (0 : Int32)) := c59.other W61 (Or.inl ne_b47_b53)
      have c68 : IAr Z h61 b53 .char (3 : Int32) (f1_v51 p2) := V61
      obtain ⟨T69, h69, X69, e69, W69, V69, st69⟩ := sC X61 hx hZ e61 c68 (j := (1 : Int32)) ⟨by decide, by first | decide | assumption⟩ (g := (mkF m 55 #[.val (.int p1), .val (.int p2), .val (.int p3), .val (.int p4)] [(.int p3), (.int (1 : Int32)), (.ref b53), (.ref b53), (.ref b47), (.ref b47)])) rfl rfl (hb hby d1_55)
      have N69 := Fr.snoc X69 N61 g_b53
      have c70 : n0 ≤ h69.size := Nat.le_trans c62 (Keep.of_wr W69).1
      have c71 : Sta Z h69 "java/lang/String" "COMPACT_STRINGS" "Z" (.int w_CS) := c63.wr W69
      have c72 : Keep h0 h69 [] := c64.wr W69 (Or.inr sz_b53)
      have c73 : Exa Z h69 b47 "java/lang/String" := c65.wr W69
      have c74 : Fld Z h69 b47 "java/lang/String" "value" "[B" .null := c66.other W69 (Or.inl ne_b47_b53)
      have c75 : Fld Z h69 b47 "java/lang/String" "coder" "B" (.int (0 : Int32)) := c67.other W69 (Or.inl ne_b47_b53)
      have c76 : IAr Z h69 b53 .char (3 : Int32) (f1_v55 p2 p3) := V69
      obtain ⟨T77, h77, X77, e77, W77, V77, st77⟩ := sC X69 hx hZ e69 c76 (j := (2 : Int32)) ⟨by decide, by first | decide | assumption⟩ (g := (mkF m 59 #[.val (.int p1), .val (.int p2), .val (.int p3), .val (.int p4)] [(.int p4), (.int (2 : Int32)), (.ref b53), (.ref b53), (.ref b47), (.ref b47)])) rfl rfl (hb hby d1_59)
      have N77 := Fr.snoc X77 N69 g_b53
      have c78 : n0 ≤ h77.size := Nat.le_trans c70 (Keep.of_wr W77).1
      have c79 : Sta Z h77 "java/lang/String" "COMPACT_STRINGS" "Z" (.int w_CS) := c71.wr W77
      have c80 : Keep h0 h77 [] := c72.wr W77 (Or.inr sz_b53)
      have c81 : Exa Z h77 b47 "java/lang/String" := c73.wr W77
      have c82 : Fld Z h77 b47 "java/lang/String" "value" "[B" .null := c74.other W77 (Or.inl ne_b47_b53)
      have c83 : Fld Z h77 b47 "java/lang/String" "coder" "B" (.int (0 : Int32)) := c75.other W77 (Or.inl ne_b47_b53)
      have c84 : IAr Z h77 b53 .char (3 : Int32) (f1_v59 p2 p3 p4) := V77
      obtain ⟨_, _, ⟨T85, L85, k85, n85⟩, -, X85, ⟨Lc85, hQ85, l85, y85, z85⟩, st85⟩ := X77.specialBack hx (y := (⟨"java/lang/String", "<init>", "([C)V"⟩ : MethodName)) rfl hown (mvT hZ (hw _ (List.mem_of_getElem? (i := 74) rfl))) (mvT hZ (hw _ (List.mem_of_getElem? (i := 75) rfl))) (mvT hZ (hw _ (List.mem_of_getElem? (i := 76) rfl))) (by decide) (backOf (W := 1) (rm7 l Z a0 hw [] b47 b53 (0 : Int32) (3 : Int32) (f1_v59 p2 p3 p4) w_CS h77 n0 c78 c81 g_b47 c82 c83 c84 ne_b47_b53 c79 hcs ⟨by decide, by decide⟩ (own_ch3 hbb)) hZ (hw _ (List.mem_of_getElem? (i := 76) rfl)) (hw _ (List.mem_of_getElem? (i := 6) rfl)) (by decide) (by decide)) (g := (mkF m 60 #[.val (.int p1), .val (.int p2), .val (.int p3), .val (.int p4)] [(.ref b53), (.ref b47), (.ref b47)])) rfl (by rw [hml]; rfl) (Steps.refl _) (a := b47) (argsL := [(.ref b53)]) (rest := [(.ref b47)]) (lenOf pd_8 rfl) rfl (by show 2 * 0 + _ ≤ _; exact Nat.le_of_eq rfl) (hb hby d1_60) (fun _ _ => ⟨rfl, e77, (by decide : 2 + 1 ≤ _), (by decide : 7 + 3 ≤ _)⟩)
      dsimp only [Pt.U, Pt.locs, Pt.cells, Pt.slots] at X85 l85 y85 z85 st85 hQ85
      subst l85 y85 z85
      obtain ⟨r85_0, rfl, N85q, K85, o85_0, zz85_0, va85_0, vf85_0⟩ := hQ85
      have N85 := Fr.app N77 N85q
      have ne_b47_r85_0 : b47 ≠ r85_0 := Nat.ne_of_lt (Nat.lt_of_lt_of_le c81.lt zz85_0)
      have ne_b53_r85_0 : b53 ≠ r85_0 := Nat.ne_of_lt (Nat.lt_of_lt_of_le c84.lt zz85_0)
      have g_r85_0 : n0 ≤ r85_0 := Nat.le_trans c78 zz85_0
      have sz_r85_0 : h0.size ≤ r85_0 := Nat.le_trans c80.1 zz85_0
      have c86 : n0 ≤ T85.heap.size := Nat.le_trans c78 K85.1
      have c87 : Sta Z T85.heap "java/lang/String" "COMPACT_STRINGS" "Z" (.int w_CS) := own_staK c79 K85 (own_nsS (Exa.nostat c81) own_ns0)
      have c88 : Keep h0 T85.heap [] := c80.trans K85 (allS (Or.inr sz_b47) all0)
      have c89 : Exa Z T85.heap b47 "java/lang/String" := c81.keep K85
      have c90 : Fld Z T85.heap b47 "java/lang/String" "value" "[B" (.ref r85_0) := vf85_0
      have c91 : Fld Z T85.heap b47 "java/lang/String" "coder" "B" (.int (f7_o0 (0 : Int32) (3 : Int32) (f1_v59 p2 p3 p4) w_CS)) := o85_0
      have c92 : IAr Z T85.heap b53 .char (3 : Int32) (f1_v59 p2 p3 p4) := c84.keep K85 (ninS (Ne.symm ne_b47_b53) nin0)
      have eq7 : (f1_x1n p1 p2 p3 p4 w_CS) = (f7_x0n (0 : Int32) (3 : Int32) (f1_v59 p2 p3 p4) w_CS) := by unfold f1_x1n; simp only [if_neg hc9, if_neg hc19]
      have eq8 : (f1_x1c p1 p2 p3 p4 w_CS) = (f7_x0c (0 : Int32) (3 : Int32) (f1_v59 p2 p3 p4) w_CS) := by unfold f1_x1c; simp only [if_neg hc9, if_neg hc19]
      obtain ⟨fs, hr, hrun, hended, hW, hsame⟩ := X85.leave (v := some (.ref b47)) (fun h => by rw [Bd.returns] at h; cases h)
      refine ⟨_, _, pre4 _ ?_, hrun, hended, _, _, rfl, ?_, ⟨_, rfl⟩, hW, hsame.mono (by decide) (by decide)⟩
      · show Steps p.tables e below (s₁.setTop (mkF m 19 #[.val (.int p1), .val (.int p2), .val (.int p3), .val (.int p4)] [(.int (2 : Int32)), (.int p1)])) _
        refine XS.icmpYes X0.here hx rfl (pc0 := 19) (pc' := 41) rfl (hb hby d1_19) rfl (feq hc19).2 (by decide) (by decide) ?_
        show Steps p.tables e below (s₁.setTop (mkF m 41 #[.val (.int p1), .val (.int p2), .val (.int p3), .val (.int p4)] [])) _
        refine st47 _ ?_
        show Steps p.tables e below (T47.setTop (mkF m 44 #[.val (.int p1), .val (.int p2), .val (.int p3), .val (.int p4)] [(.ref b47)])) _
        refine XS.dup X47.here hx rfl (hb hby d1_44) rfl rfl ?_
        show Steps p.tables e below (T47.setTop (mkF m 45 #[.val (.int p1), .val (.int p2), .val (.int p3), .val (.int p4)] [(.ref b47), (.ref b47)])) _
        refine XS.iconst X47.here hx rfl (hb hby d1_45) ?_
        show Steps p.tables e below (T47.setTop (mkF m 46 #[.val (.int p1), .val (.int p2), .val (.int p3), .val (.int p4)] [(.int (3 : Int32)), (.ref b47), (.ref b47)])) _
        refine st53 _ ?_
        show Steps p.tables e below (T53.setTop (mkF m 48 #[.val (.int p1), .val (.int p2), .val (.int p3), .val (.int p4)] [(.ref b53), (.ref b47), (.ref b47)])) _
        refine XS.dup X53.here hx rfl (hb hby d1_48) rfl rfl ?_
        show Steps p.tables e below (T53.setTop (mkF m 49 #[.val (.int p1), .val (.int p2), .val (.int p3), .val (.int p4)] [(.ref b53), (.ref b53), (.ref b47), (.ref b47)])) _
        refine XS.iconst X53.here hx rfl (hb hby d1_49) ?_
        show Steps p.tables e below (T53.setTop (mkF m 50 #[.val (.int p1), .val (.int p2), .val (.int p3), .val (.int p4)] [(.int (0 : Int32)), (.ref b53), (.ref b53), (.ref b47), (.ref b47)])) _
        refine XS.iloadN X53.here hx rfl (hb hby d1_50) rfl ?_
        show Steps p.tables e below (T53.setTop (mkF m 51 #[.val (.int p1), .val (.int p2), .val (.int p3), .val (.int p4)] [(.int p2), (.int (0 : Int32)), (.ref b53), (.ref b53), (.ref b47), (.ref b47)])) _
        refine st61 _ ?_
        show Steps p.tables e below (T61.setTop (mkF m 52 #[.val (.int p1), .val (.int p2), .val (.int p3), .val (.int p4)] [(.ref b53), (.ref b47), (.ref b47)])) _
        refine XS.dup X61.here hx rfl (hb hby d1_52) rfl rfl ?_
        show Steps p.tables e below (T61.setTop (mkF m 53 #[.val (.int p1), .val (.int p2), .val (.int p3), .val (.int p4)] [(.ref b53), (.ref b53), (.ref b47), (.ref b47)])) _
        refine XS.iconst X61.here hx rfl (hb hby d1_53) ?_
        show Steps p.tables e below (T61.setTop (mkF m 54 #[.val (.int p1), .val (.int p2), .val (.int p3), .val (.int p4)] [(.int (1 : Int32)), (.ref b53), (.ref b53), (.ref b47), (.ref b47)])) _
        refine XS.iloadN X61.here hx rfl (hb hby d1_54) rfl ?_
        show Steps p.tables e below (T61.setTop (mkF m 55 #[.val (.int p1), .val (.int p2), .val (.int p3), .val (.int p4)] [(.int p3), (.int (1 : Int32)), (.ref b53), (.ref b53), (.ref b47), (.ref b47)])) _
        refine st69 _ ?_
        show Steps p.tables e below (T69.setTop (mkF m 56 #[.val (.int p1), .val (.int p2), .val (.int p3), .val (.int p4)] [(.ref b53), (.ref b47), (.ref b47)])) _
        refine XS.dup X69.here hx rfl (hb hby d1_56) rfl rfl ?_
        show Steps p.tables e below (T69.setTop (mkF m 57 #[.val (.int p1), .val (.int p2), .val (.int p3), .val (.int p4)] [(.ref b53), (.ref b53), (.ref b47), (.ref b47)])) _
        refine XS.iconst X69.here hx rfl (hb hby d1_57) ?_
        show Steps p.tables e below (T69.setTop (mkF m 58 #[.val (.int p1), .val (.int p2), .val (.int p3), .val (.int p4)] [(.int (2 : Int32)), (.ref b53), (.ref b53), (.ref b47), (.ref b47)])) _
        refine XS.iloadN X69.here hx rfl (hb hby d1_58) rfl ?_
        show Steps p.tables e below (T69.setTop (mkF m 59 #[.val (.int p1), .val (.int p2), .val (.int p3), .val (.int p4)] [(.int p4), (.int (2 : Int32)), (.ref b53), (.ref b53), (.ref b47), (.ref b47)])) _
        refine st77 _ ?_
        show Steps p.tables e below (T77.setTop (mkF m 60 #[.val (.int p1), .val (.int p2), .val (.int p3), .val (.int p4)] [(.ref b53), (.ref b47), (.ref b47)])) _
        refine st85.trans ?_
        show Steps p.tables e below (T85.setTop (mkF m 63 #[.val (.int p1), .val (.int p2), .val (.int p3), .val (.int p4)] [(.ref b47)])) _
        jvm_step X85.here [X85.here.top, hx, (hb hby d1_63), X85.method', Bd.returns, Value.isRef, FieldType.isReference]
        first | (intro acts; rw [hr _ acts rfl rfl rfl]) | rw [hr _ _ rfl rfl rfl]
        exact Steps.refl _
      · show Q1 Z p1 p2 p3 p4 w_CS h0 n0 _ T85.heap _
        exact ⟨b47, r85_0, rfl, N85, c88, c89, (by rw [eq7, eq8]; exact va85_0), c90⟩
theorem d6_0 : decode jdk_42_method_55_code 0 = .ok (.aload_n 0, 1) := by decide +kernel
theorem d6_1 : decode jdk_42_method_55_code 1 = .ok (.getfield 9, 3) := by decide +kernel
theorem d6_4 : decode jdk_42_method_55_code 4 = .ok (.arraylength, 1) := by decide +kernel
theorem d6_5 : decode jdk_42_method_55_code 5 = .ok (.ifCond .ne 7, 3) := by decide +kernel
theorem d6_8 : decode jdk_42_method_55_code 8 = .ok (.iconst 1, 1) := by decide +kernel
theorem d6_9 : decode jdk_42_method_55_code 9 = .ok (.goto 4, 3) := by decide +kernel
theorem d6_12 : decode jdk_42_method_55_code 12 = .ok (.iconst 0, 1) := by decide +kernel
theorem d6_13 : decode jdk_42_method_55_code 13 = .ok (.ireturn, 1) := by decide +kernel
theorem ef_6 (m : MethodId) (x0 : Addr) : entryFrame m #[(.ref x0)] 1 = mkF m 0 #[.val (.ref x0)] [] := by first | (simp [entryFrame, mkF, argsToLocals, Value.category]; done) | rfl
def f6 (z_w_val : Int32) (c_w_val : Nat → Int32) : Int32 := (if z_w_val = (0 : Int32) then (1 : Int32) else (0 : Int32))
def Q6 (Z : State) (a1 : Addr) (w_val : Addr) (z_w_val : Int32) (c_w_val : Nat → Int32) (h0 : Heap) (n0 : Nat) (v : Option Value) (h : Heap) (L : List Loc) : Prop := v = some (.int (f6 z_w_val c_w_val)) ∧ Fr n0 L ∧ h = h0
set_option maxRecDepth 65536 in
set_option maxHeartbeats 40000000 in
theorem rm6 (l : Launch) (Z : State) (a0 : Array Value) (hw : ∀ d ∈ tables_1, d.before a0 Z = true) (ws : List Jvm.Cond) (a1 : Addr) (w_val : Addr) (z_w_val : Int32) (c_w_val : Nat → Int32) (h0 : Heap) (n0 : Nat) (Z0 : n0 ≤ h0.size) (F_value_a1 : Fld Z h0 a1 "java/lang/String" "value" "[B" (.ref w_val)) (V_w_val : IAr Z h0 w_val .byte z_w_val c_w_val) :
    MetFree l (⟨"java/lang/String", "isEmpty", "()Z"⟩ : MethodName) (head1 (Jvm.Cond.code (⟨"java/lang/String", "isEmpty", "()Z"⟩ : MethodName) jdk_42_method_55_code 1 (some .boolean) :: ws) ({ frames := 0, cells := 0, slots := 0, locals := 0 } : Room)) (fun a U => a = #[(.ref a1)] ∧ Z.Warmed39 U.vm ∧ U.heap = h0) (fun _ _ _ _ _ => True) (fun _ U o U' => ∃ v L, o = .returned v ∧ Q6 Z a1 w_val z_w_val c_w_val h0 n0 v U'.heap L ∧ FrameEnd U o U' L ({ frames := 0, cells := 0, slots := 0, locals := 0 } : Room).cells ({ frames := 0, cells := 0, slots := 0, locals := 0 } : Room).slots) := by
  refine MetFree.of_bodySF (plainFor_of_name pn_1) hisR ?_
  intro p e s m args below meth c s₁ Bd hml0 hP hK
  obtain ⟨rfl, hZ, hh⟩ := hP
  have hx := Bd.exec
  have hby := Bd.bytes
  have hml : c.maxLocals = 1 := hml0
  have hown : s.vm.findClass "java/lang/String" = some m.cls := findClass_of_methodNamed Bd.named
  have hnm := (name_of_methodNamed Bd.named Bd.method).1
  have X0 : Stand p l e ({ frames := 0, cells := 0, slots := 0, locals := 0 } : Room) s m #[(.ref a1)] below meth c s₁ [] 0 0 := Stand.of_body Bd
  have e0 : s₁.heap = h0 := by rw [← hh, Bd.state]; rfl
  have N0 := Fr.nil n0
  have pre0 : ∀ t, Steps p.tables e below (s₁.setTop (mkF m 0 #[.val (.ref a1)] [])) t → Steps p.tables e below (s₁.setTop (entryFrame m #[(.ref a1)] 1)) t := fun t k => castTop (ef_6 m a1) k
  obtain ⟨T2, X2, e2, st2⟩ := getF X0 hx hZ hown (host := "") (Or.inl (hw _ (List.mem_of_getElem? (i := 71) rfl))) Via.refl e0 F_value_a1 (g := (mkF m 1 #[.val (.ref a1)] [(.ref a1)])) rfl rfl (hb hby d6_1)
  have pre1 : ∀ t, Steps p.tables e below (T2.setTop (mkF m 5 #[.val (.ref a1)] [(.int z_w_val)])) t → Steps p.tables e below (s₁.setTop (entryFrame m #[(.ref a1)] 1)) t := by
    intro t k
    refine pre0 t ?_
    show Steps p.tables e below (s₁.setTop (mkF m 0 #[.val (.ref a1)] [])) _
    refine XS.aloadN X0.here hx rfl (hb hby d6_0) rfl rfl ?_
    show Steps p.tables e below (s₁.setTop (mkF m 1 #[.val (.ref a1)] [(.ref a1)])) _
    refine st2 _ ?_
    show Steps p.tables e below (T2.setTop (mkF m 4 #[.val (.ref a1)] [(.ref w_val)])) _
    refine alen X2 hx hZ e2 V_w_val (g := (mkF m 4 #[.val (.ref a1)] [(.ref w_val)])) rfl rfl (hb hby d6_4) ?_
    exact k
  by_cases hc5 : z_w_val = (0 : Int32)
  · have eq2 : (f6 z_w_val c_w_val) = (1 : Int32) := by unfold f6; simp only [if_pos hc5]
    obtain ⟨fs, hr, hrun, hended, hW, hsame⟩ := X2.leave (v := some (.int (1 : Int32))) (fun h => by rw [Bd.returns] at h; cases h)
    refine ⟨_, _, pre1 _ ?_, hrun, hended, _, _, rfl, ?_, ⟨_, rfl⟩, hW, hsame.mono (by decide) (by decide)⟩
    · show Steps p.tables e below (T2.setTop (mkF m 5 #[.val (.ref a1)] [(.int z_w_val)])) _
      refine XS.ifNo X2.here hx rfl (hb hby d6_5) rfl ((if0 _ _).trans (teq hc5).2) ?_
      show Steps p.tables e below (T2.setTop (mkF m 8 #[.val (.ref a1)] [])) _
      refine XS.iconst X2.here hx rfl (hb hby d6_8) ?_
      show Steps p.tables e below (T2.setTop (mkF m 9 #[.val (.ref a1)] [(.int (1 : Int32))])) _
      refine XS.goto X2.here hx rfl (pc0 := 9) (pc' := 13) rfl (hb hby d6_9) (by decide) (by decide) ?_
      show Steps p.tables e below (T2.setTop (mkF m 13 #[.val (.ref a1)] [(.int (1 : Int32))])) _
      exact retN X2 hx (t := .boolean) Bd.returns (by simp) (hb hby d6_13) hr
    · show Q6 Z a1 w_val z_w_val c_w_val h0 n0 _ T2.heap _
      rw [e2]
      exact ⟨by rw [eq2], N0, rfl⟩
  · have eq3 : (f6 z_w_val c_w_val) = (0 : Int32) := by unfold f6; simp only [if_neg hc5]
    obtain ⟨fs, hr, hrun, hended, hW, hsame⟩ := X2.leave (v := some (.int (0 : Int32))) (fun h => by rw [Bd.returns] at h; cases h)
    refine ⟨_, _, pre1 _ ?_, hrun, hended, _, _, rfl, ?_, ⟨_, rfl⟩, hW, hsame.mono (by decide) (by decide)⟩
    · show Steps p.tables e below (T2.setTop (mkF m 5 #[.val (.ref a1)] [(.int z_w_val)])) _
      refine XS.ifYes X2.here hx rfl (pc0 := 5) (pc' := 12) rfl (hb hby d6_5) rfl ((if0 _ _).trans (feq hc5).2) (by decide) (by decide) ?_
      show Steps p.tables e below (T2.setTop (mkF m 12 #[.val (.ref a1)] [])) _
      refine XS.iconst X2.here hx rfl (hb hby d6_12) ?_
      show Steps p.tables e below (T2.setTop (mkF m 13 #[.val (.ref a1)] [(.int (0 : Int32))])) _
      exact retN X2 hx (t := .boolean) Bd.returns (by simp) (hb hby d6_13) hr
    · show Q6 Z a1 w_val z_w_val c_w_val h0 n0 _ T2.heap _
      rw [e2]
      exact ⟨by rw [eq3], N0, rfl⟩
theorem pd_9 : parseMethodDescriptor "()Z" = some ⟨[], some .boolean⟩ := by decide +kernel
theorem pn_4 : plainName "com/example/titlepoint/titlepoint/FieldDefinition" = true := by first | (simp [plainName, overriddenIn]; done) | decide +kernel
theorem d5_0 : decode prog_6_method_13_code 0 = .ok (.aload_n 0, 1) := by decide +kernel
theorem d5_1 : decode prog_6_method_13_code 1 = .ok (.getfield 45, 3) := by decide +kernel
theorem d5_4 : decode prog_6_method_13_code 4 = .ok (.invokevirtual 140, 3) := by decide +kernel
theorem d5_7 : decode prog_6_method_13_code 7 = .ok (.ifCond .ne 7, 3) := by decide +kernel
theorem d5_10 : decode prog_6_method_13_code 10 = .ok (.iconst 1, 1) := by decide +kernel
theorem d5_11 : decode prog_6_method_13_code 11 = .ok (.goto 4, 3) := by decide +kernel
theorem d5_14 : decode prog_6_method_13_code 14 = .ok (.iconst 0, 1) := by decide +kernel
theorem d5_15 : decode prog_6_method_13_code 15 = .ok (.ireturn, 1) := by decide +kernel
theorem ef_5 (m : MethodId) (x0 : Addr) : entryFrame m #[(.ref x0)] 1 = mkF m 0 #[.val (.ref x0)] [] := by first | (simp [entryFrame, mkF, argsToLocals, Value.category]; done) | rfl
def f5 (z_w_val : Int32) (c_w_val : Nat → Int32) : Int32 := (if (f6 z_w_val c_w_val) = (0 : Int32) then (1 : Int32) else (0 : Int32))
def Q5 (Z : State) (a1 : Addr) (w_ent : Addr) (w_val : Addr) (z_w_val : Int32) (c_w_val : Nat → Int32) (h0 : Heap) (n0 : Nat) (v : Option Value) (h : Heap) (L : List Loc) : Prop := v = some (.int (f5 z_w_val c_w_val)) ∧ Fr n0 L ∧ h = h0
set_option maxRecDepth 65536 in
set_option maxHeartbeats 40000000 in
theorem rm5 (l : Launch) (Z : State) (a0 : Array Value) (hw : ∀ d ∈ tables_1, d.before a0 Z = true) (ws : List Jvm.Cond) (a1 : Addr) (w_ent : Addr) (w_val : Addr) (z_w_val : Int32) (c_w_val : Nat → Int32) (h0 : Heap) (n0 : Nat) (Z0 : n0 ≤ h0.size) (F_entity_a1 : Fld Z h0 a1 "com/example/titlepoint/titlepoint/FieldDefinition" "entity" "Ljava/lang/String;" (.ref w_ent)) (E_w_ent : Exa Z h0 w_ent "java/lang/String") (F_value_w_ent : Fld Z h0 w_ent "java/lang/String" "value" "[B" (.ref w_val)) (V_w_val : IAr Z h0 w_val .byte z_w_val c_w_val) :
    MetFree l (⟨"com/example/titlepoint/titlepoint/FieldDefinition", "isAuthorizedAccessPoint", "()Z"⟩ : MethodName) (head1 (Jvm.Cond.code (⟨"com/example/titlepoint/titlepoint/FieldDefinition", "isAuthorizedAccessPoint", "()Z"⟩ : MethodName) prog_6_method_13_code 1 (some .boolean) :: ws) ({ frames := 1, cells := 0, slots := 0, locals := 12 } : Room)) (fun a U => a = #[(.ref a1)] ∧ Z.Warmed39 U.vm ∧ U.heap = h0) (fun _ _ _ _ _ => True) (fun _ U o U' => ∃ v L, o = .returned v ∧ Q5 Z a1 w_ent w_val z_w_val c_w_val h0 n0 v U'.heap L ∧ FrameEnd U o U' L ({ frames := 1, cells := 0, slots := 0, locals := 12 } : Room).cells ({ frames := 1, cells := 0, slots := 0, locals := 12 } : Room).slots) := by
  refine MetFree.of_bodySF (plainFor_of_name pn_4) hisR ?_
  intro p e s m args below meth c s₁ Bd hml0 hP hK
  obtain ⟨rfl, hZ, hh⟩ := hP
  have hx := Bd.exec
  have hby := Bd.bytes
  have hml : c.maxLocals = 1 := hml0
  have hown : s.vm.findClass "com/example/titlepoint/titlepoint/FieldDefinition" = some m.cls := findClass_of_methodNamed Bd.named
  have hnm := (name_of_methodNamed Bd.named Bd.method).1
  have X0 : Stand p l e ({ frames := 1, cells := 0, slots := 0, locals := 12 } : Room) s m #[(.ref a1)] below meth c s₁ [] 0 0 := Stand.of_body Bd
  have e0 : s₁.heap = h0 := by rw [← hh, Bd.state]; rfl
  have N0 := Fr.nil n0
  have pre0 : ∀ t, Steps p.tables e below (s₁.setTop (mkF m 0 #[.val (.ref a1)] [])) t → Steps p.tables e below (s₁.setTop (entryFrame m #[(.ref a1)] 1)) t := fun t k => castTop (ef_5 m a1) k
  obtain ⟨T2, X2, e2, st2⟩ := getF X0 hx hZ hown (host := "") (Or.inl (hw _ (List.mem_of_getElem? (i := 53) rfl))) Via.refl e0 F_entity_a1 (g := (mkF m 1 #[.val (.ref a1)] [(.ref a1)])) rfl rfl (hb hby d5_1)
  obtain ⟨cq3, kq3, q3a, q3b, q3c⟩ := isOf hZ e2 E_w_ent
  obtain ⟨_, _, ⟨T3, L3, k3, n3⟩, -, X3, ⟨Lc3, hQ3, l3, y3, z3⟩, st3⟩ := X2.virtualBack hx (y := (⟨"java/lang/String", "isEmpty", "()Z"⟩ : MethodName)) (z := (⟨"java/lang/String", "isEmpty", "()Z"⟩ : MethodName)) hown (mvT hZ (hw _ (List.mem_of_getElem? (i := 66) rfl))) (mvT hZ (hw _ (List.mem_of_getElem? (i := 67) rfl))) (notFace_of_selects (args := #[]) (mvT hZ (hw _ (List.mem_of_getElem? (i := 69) rfl)))) (mvT hZ (hw _ (List.mem_of_getElem? (i := 69) rfl))) (mvT hZ (hw _ (List.mem_of_getElem? (i := 68) rfl))) (by decide) (backOf (W := 0) (rm6 l Z a0 hw [] w_ent w_val z_w_val c_w_val h0 n0 Z0 F_value_w_ent V_w_val) hZ (hw _ (List.mem_of_getElem? (i := 70) rfl)) (hw _ (List.mem_of_getElem? (i := 6) rfl)) (by decide) (by decide)) q3a q3c (g := (mkF m 4 #[.val (.ref a1)] [(.ref w_ent)])) rfl (by rw [hml]; rfl) (Steps.refl _) (argsL := []) (rest := []) (lenOf pd_9 rfl) rfl (by show 2 * 0 + _ ≤ _; exact Nat.le_of_eq rfl) (hb hby d5_4) (fun _ _ => ⟨rfl, e2, (by decide : 0 + 0 ≤ _), (by decide : 0 + 0 ≤ _)⟩)
  dsimp only [Pt.U, Pt.locs, Pt.cells, Pt.slots] at X3 l3 y3 z3 st3 hQ3
  subst l3 y3 z3
  obtain ⟨rfl, N3q, e3⟩ := hQ3
  have N3 := Fr.app N0 N3q
  have pre1 : ∀ t, Steps p.tables e below (T3.setTop (mkF m 7 #[.val (.ref a1)] [(.int (f6 z_w_val c_w_val))])) t → Steps p.tables e below (s₁.setTop (entryFrame m #[(.ref a1)] 1)) t := by
    intro t k
    refine pre0 t ?_
    show Steps p.tables e below (s₁.setTop (mkF m 0 #[.val (.ref a1)] [])) _
    refine XS.aloadN X0.here hx rfl (hb hby d5_0) rfl rfl ?_
    show Steps p.tables e below (s₁.setTop (mkF m 1 #[.val (.ref a1)] [(.ref a1)])) _
    refine st2 _ ?_
    show Steps p.tables e below (T2.setTop (mkF m 4 #[.val (.ref a1)] [(.ref w_ent)])) _
    refine st3.trans ?_
    exact k
  by_cases hc7 : (f6 z_w_val c_w_val) = (0 : Int32)
  · have eq2 : (f5 z_w_val c_w_val) = (1 : Int32) := by unfold f5; simp only [if_pos hc7]
    obtain ⟨fs, hr, hrun, hended, hW, hsame⟩ := X3.leave (v := some (.int (1 : Int32))) (fun h => by rw [Bd.returns] at h; cases h)
    refine ⟨_, _, pre1 _ ?_, hrun, hended, _, _, rfl, ?_, ⟨_, rfl⟩, hW, hsame.mono (by decide) (by decide)⟩
    · show Steps p.tables e below (T3.setTop (mkF m 7 #[.val (.ref a1)] [(.int (f6 z_w_val c_w_val))])) _
      refine XS.ifNo X3.here hx rfl (hb hby d5_7) rfl ((if0 _ _).trans (teq hc7).2) ?_
      show Steps p.tables e below (T3.setTop (mkF m 10 #[.val (.ref a1)] [])) _
      refine XS.iconst X3.here hx rfl (hb hby d5_10) ?_
      show Steps p.tables e below (T3.setTop (mkF m 11 #[.val (.ref a1)] [(.int (1 : Int32))])) _
      refine XS.goto X3.here hx rfl (pc0 := 11) (pc' := 15) rfl (hb hby d5_11) (by decide) (by decide) ?_
      show Steps p.tables e below (T3.setTop (mkF m 15 #[.val (.ref a1)] [(.int (1 : Int32))])) _
      exact retN X3 hx (t := .boolean) Bd.returns (by simp) (hb hby d5_15) hr
    · show Q5 Z a1 w_ent w_val z_w_val c_w_val h0 n0 _ T3.heap _
      rw [e3]
      exact ⟨by rw [eq2], N3, rfl⟩
  · have eq3 : (f5 z_w_val c_w_val) = (0 : Int32) := by unfold f5; simp only [if_neg hc7]
    obtain ⟨fs, hr, hrun, hended, hW, hsame⟩ := X3.leave (v := some (.int (0 : Int32))) (fun h => by rw [Bd.returns] at h; cases h)
    refine ⟨_, _, pre1 _ ?_, hrun, hended, _, _, rfl, ?_, ⟨_, rfl⟩, hW, hsame.mono (by decide) (by decide)⟩
    · show Steps p.tables e below (T3.setTop (mkF m 7 #[.val (.ref a1)] [(.int (f6 z_w_val c_w_val))])) _
      refine XS.ifYes X3.here hx rfl (pc0 := 7) (pc' := 14) rfl (hb hby d5_7) rfl ((if0 _ _).trans (feq hc7).2) (by decide) (by decide) ?_
      show Steps p.tables e below (T3.setTop (mkF m 14 #[.val (.ref a1)] [])) _
      refine XS.iconst X3.here hx rfl (hb hby d5_14) ?_
      show Steps p.tables e below (T3.setTop (mkF m 15 #[.val (.ref a1)] [(.int (0 : Int32))])) _
      exact retN X3 hx (t := .boolean) Bd.returns (by simp) (hb hby d5_15) hr
    · show Q5 Z a1 w_ent w_val z_w_val c_w_val h0 n0 _ T3.heap _
      rw [e3]
      exact ⟨by rw [eq3], N3, rfl⟩
theorem pn_5 : plainName "java/lang/Record" = true := by first | (simp [plainName, overriddenIn]; done) | decide +kernel
theorem d3_0 : decode jdk_30_method_1_code 0 = .ok (.aload_n 0, 1) := by decide +kernel
theorem d3_1 : decode jdk_30_method_1_code 1 = .ok (.invokespecial 1, 3) := by decide +kernel
theorem d3_4 : decode jdk_30_method_1_code 4 = .ok (.return_, 1) := by decide +kernel
theorem ef_3 (m : MethodId) (x0 : Addr) : entryFrame m #[(.ref x0)] 1 = mkF m 0 #[.val (.ref x0)] [] := by first | (simp [entryFrame, mkF, argsToLocals, Value.category]; done) | rfl
def Q3 (Z : State) (a1 : Addr) (h0 : Heap) (n0 : Nat) (v : Option Value) (h : Heap) (L : List Loc) : Prop := v = none ∧ Fr n0 L ∧ h = h0
set_option maxRecDepth 65536 in
set_option maxHeartbeats 40000000 in
theorem rm3 (l : Launch) (Z : State) (a0 : Array Value) (hw : ∀ d ∈ tables_1, d.before a0 Z = true) (ws : List Jvm.Cond) (a1 : Addr) (h0 : Heap) (n0 : Nat) (Z0 : n0 ≤ h0.size) :
    MetFree l (⟨"java/lang/Record", "<init>", "()V"⟩ : MethodName) (head1 (Jvm.Cond.code (⟨"java/lang/Record", "<init>", "()V"⟩ : MethodName) jdk_30_method_1_code 1 none :: ws) ({ frames := 1, cells := 0, slots := 0, locals := 12 } : Room)) (fun a U => a = #[(.ref a1)] ∧ Z.Warmed39 U.vm ∧ U.heap = h0) (fun _ _ _ _ _ => True) (fun _ U o U' => ∃ v L, o = .returned v ∧ Q3 Z a1 h0 n0 v U'.heap L ∧ FrameEnd U o U' L ({ frames := 1, cells := 0, slots := 0, locals := 12 } : Room).cells ({ frames := 1, cells := 0, slots := 0, locals := 12 } : Room).slots) := by
  refine MetFree.of_bodySF (plainFor_of_name pn_5) hisR ?_
  intro p e s m args below meth c s₁ Bd hml0 hP hK
  obtain ⟨rfl, hZ, hh⟩ := hP
  have hx := Bd.exec
  have hby := Bd.bytes
  have hml : c.maxLocals = 1 := hml0
  have hown : s.vm.findClass "java/lang/Record" = some m.cls := findClass_of_methodNamed Bd.named
  have hnm := (name_of_methodNamed Bd.named Bd.method).1
  have X0 : Stand p l e ({ frames := 1, cells := 0, slots := 0, locals := 12 } : Room) s m #[(.ref a1)] below meth c s₁ [] 0 0 := Stand.of_body Bd
  have e0 : s₁.heap = h0 := by rw [← hh, Bd.state]; rfl
  have N0 := Fr.nil n0
  have pre0 : ∀ t, Steps p.tables e below (s₁.setTop (mkF m 0 #[.val (.ref a1)] [])) t → Steps p.tables e below (s₁.setTop (entryFrame m #[(.ref a1)] 1)) t := fun t k => castTop (ef_3 m a1) k
  obtain ⟨T2, X2, e2, st2⟩ := initO X0 hx hZ hown (hw _ (List.mem_of_getElem? (i := 28) rfl)) (hw _ (List.mem_of_getElem? (i := 29) rfl)) (hw _ (List.mem_of_getElem? (i := 30) rfl)) e0 (g := (mkF m 1 #[.val (.ref a1)] [(.ref a1)])) rfl (by rw [hml]; rfl) rfl (hb hby d3_1) (by decide) (W := 0) (by show 2 * 0 + _ ≤ _; exact Nat.le_of_eq rfl) (by decide)
  obtain ⟨fs, hr, hrun, hended, hW, hsame⟩ := X2.leave (v := none) (fun _ => rfl)
  refine ⟨_, _, pre0 _ ?_, hrun, hended, _, _, rfl, ?_, ⟨_, rfl⟩, hW, hsame.mono (by decide) (by decide)⟩
  · show Steps p.tables e below (s₁.setTop (mkF m 0 #[.val (.ref a1)] [])) _
    refine XS.aloadN X0.here hx rfl (hb hby d3_0) rfl rfl ?_
    show Steps p.tables e below (s₁.setTop (mkF m 1 #[.val (.ref a1)] [(.ref a1)])) _
    refine st2 _ ?_
    show Steps p.tables e below (T2.setTop (mkF m 4 #[.val (.ref a1)] [])) _
    exact X2.returnOut hx Bd.returns (hb hby d3_4) hr
  · show Q3 Z a1 h0 n0 _ T2.heap _
    rw [e2]
    exact ⟨rfl, N0, rfl⟩
theorem pd_10 : parseMethodDescriptor "()V" = some ⟨[], none⟩ := by decide +kernel
theorem d2_0 : decode prog_6_method_1_code 0 = .ok (.aload_n 0, 1) := by decide +kernel
theorem d2_1 : decode prog_6_method_1_code 1 = .ok (.invokespecial 1, 3) := by decide +kernel
theorem d2_4 : decode prog_6_method_1_code 4 = .ok (.aload_n 0, 1) := by decide +kernel
theorem d2_5 : decode prog_6_method_1_code 5 = .ok (.aload_n 1, 1) := by decide +kernel
theorem d2_6 : decode prog_6_method_1_code 6 = .ok (.putfield 7, 3) := by decide +kernel
theorem d2_9 : decode prog_6_method_1_code 9 = .ok (.aload_n 0, 1) := by decide +kernel
theorem d2_10 : decode prog_6_method_1_code 10 = .ok (.aload_n 2, 1) := by decide +kernel
theorem d2_11 : decode prog_6_method_1_code 11 = .ok (.putfield 13, 3) := by decide +kernel
theorem d2_14 : decode prog_6_method_1_code 14 = .ok (.aload_n 0, 1) := by decide +kernel
theorem d2_15 : decode prog_6_method_1_code 15 = .ok (.iload_n 3, 1) := by decide +kernel
theorem d2_16 : decode prog_6_method_1_code 16 = .ok (.putfield 16, 3) := by decide +kernel
theorem d2_19 : decode prog_6_method_1_code 19 = .ok (.aload_n 0, 1) := by decide +kernel
theorem d2_20 : decode prog_6_method_1_code 20 = .ok (.aload 4, 2) := by decide +kernel
theorem d2_22 : decode prog_6_method_1_code 22 = .ok (.putfield 20, 3) := by decide +kernel
theorem d2_25 : decode prog_6_method_1_code 25 = .ok (.aload_n 0, 1) := by decide +kernel
theorem d2_26 : decode prog_6_method_1_code 26 = .ok (.aload 5, 2) := by decide +kernel
theorem d2_28 : decode prog_6_method_1_code 28 = .ok (.putfield 23, 3) := by decide +kernel
theorem d2_31 : decode prog_6_method_1_code 31 = .ok (.aload_n 0, 1) := by decide +kernel
theorem d2_32 : decode prog_6_method_1_code 32 = .ok (.aload 6, 2) := by decide +kernel
theorem d2_34 : decode prog_6_method_1_code 34 = .ok (.putfield 26, 3) := by decide +kernel
theorem d2_37 : decode prog_6_method_1_code 37 = .ok (.aload_n 0, 1) := by decide +kernel
theorem d2_38 : decode prog_6_method_1_code 38 = .ok (.aload 7, 2) := by decide +kernel
theorem d2_40 : decode prog_6_method_1_code 40 = .ok (.putfield 29, 3) := by decide +kernel
theorem d2_43 : decode prog_6_method_1_code 43 = .ok (.aload_n 0, 1) := by decide +kernel
theorem d2_44 : decode prog_6_method_1_code 44 = .ok (.aload 8, 2) := by decide +kernel
theorem d2_46 : decode prog_6_method_1_code 46 = .ok (.putfield 32, 3) := by decide +kernel
theorem d2_49 : decode prog_6_method_1_code 49 = .ok (.aload_n 0, 1) := by decide +kernel
theorem d2_50 : decode prog_6_method_1_code 50 = .ok (.aload 9, 2) := by decide +kernel
theorem d2_52 : decode prog_6_method_1_code 52 = .ok (.putfield 35, 3) := by decide +kernel
theorem d2_55 : decode prog_6_method_1_code 55 = .ok (.aload_n 0, 1) := by decide +kernel
theorem d2_56 : decode prog_6_method_1_code 56 = .ok (.aload 10, 2) := by decide +kernel
theorem d2_58 : decode prog_6_method_1_code 58 = .ok (.putfield 38, 3) := by decide +kernel
theorem d2_61 : decode prog_6_method_1_code 61 = .ok (.aload_n 0, 1) := by decide +kernel
theorem d2_62 : decode prog_6_method_1_code 62 = .ok (.aload 11, 2) := by decide +kernel
theorem d2_64 : decode prog_6_method_1_code 64 = .ok (.putfield 41, 3) := by decide +kernel
theorem d2_67 : decode prog_6_method_1_code 67 = .ok (.aload_n 0, 1) := by decide +kernel
theorem d2_68 : decode prog_6_method_1_code 68 = .ok (.aload 12, 2) := by decide +kernel
theorem d2_70 : decode prog_6_method_1_code 70 = .ok (.putfield 45, 3) := by decide +kernel
theorem d2_73 : decode prog_6_method_1_code 73 = .ok (.aload_n 0, 1) := by decide +kernel
theorem d2_74 : decode prog_6_method_1_code 74 = .ok (.aload 13, 2) := by decide +kernel
theorem d2_76 : decode prog_6_method_1_code 76 = .ok (.putfield 48, 3) := by decide +kernel
theorem d2_79 : decode prog_6_method_1_code 79 = .ok (.aload_n 0, 1) := by decide +kernel
theorem d2_80 : decode prog_6_method_1_code 80 = .ok (.aload 14, 2) := by decide +kernel
theorem d2_82 : decode prog_6_method_1_code 82 = .ok (.putfield 51, 3) := by decide +kernel
theorem d2_85 : decode prog_6_method_1_code 85 = .ok (.return_, 1) := by decide +kernel
theorem ef_2 (m : MethodId) (x0 : Addr) (x1 : Addr) (x2 : Addr) (x3 : Int32) (x4 : Addr) (x5 : Addr) (x6 : Addr) (x7 : Addr) (x8 : Addr) (x9 : Addr) (x10 : Addr) (x12 : Addr) (x13 : Addr) (x14 : Addr) : entryFrame m #[(.ref x0), (.ref x1), (.ref x2), (.int x3), (.ref x4), (.ref x5), (.ref x6), (.ref x7), (.ref x8), (.ref x9), (.ref x10), .null, (.ref x12), (.ref x13), (.ref x14)] 15 = mkF m 0 #[.val (.ref x0), .val (.ref x1), .val (.ref x2), .val (.int x3), .val (.ref x4), .val (.ref x5), .val (.ref x6), .val (.ref x7), .val (.ref x8), .val (.ref x9), .val (.ref x10), .val .null, .val (.ref x12), .val (.ref x13), .val (.ref x14)] [] := by first | (simp [entryFrame, mkF, argsToLocals, Value.category]; done) | rfl
def f2_o2 (p4 : Int32) (w_fieldRepeatable_a1 : Int32) : Int32 := (nar .boolean p4)
def Q2 (Z : State) (a1 : Addr) (a2 : Addr) (a3 : Addr) (p4 : Int32) (a5 : Addr) (a6 : Addr) (a7 : Addr) (a8 : Addr) (a9 : Addr) (a10 : Addr) (a11 : Addr) (a13 : Addr) (a14 : Addr) (a15 : Addr) (w_fieldRepeatable_a1 : Int32) (h0 : Heap) (n0 : Nat) (v : Option Value) (h : Heap) (L : List Loc) : Prop := v = none ∧ Fr n0 L ∧ Keep h0 h [a1] ∧ Fld Z h a1 "com/example/titlepoint/titlepoint/FieldDefinition" "tag" "Ljava/lang/String;" (.ref a2) ∧ Fld Z h a1 "com/example/titlepoint/titlepoint/FieldDefinition" "label" "Ljava/lang/String;" (.ref a3) ∧ Fld Z h a1 "com/example/titlepoint/titlepoint/FieldDefinition" "fieldRepeatable" "Z" (.int (f2_o2 p4 w_fieldRepeatable_a1)) ∧ Fld Z h a1 "com/example/titlepoint/titlepoint/FieldDefinition" "indicator1" "Ljava/lang/String;" (.ref a5) ∧ Fld Z h a1 "com/example/titlepoint/titlepoint/FieldDefinition" "indicator2" "Ljava/lang/String;" (.ref a6) ∧ Fld Z h a1 "com/example/titlepoint/titlepoint/FieldDefinition" "work" "Ljava/lang/String;" (.ref a7) ∧ Fld Z h a1 "com/example/titlepoint/titlepoint/FieldDefinition" "expression" "Ljava/lang/String;" (.ref a8) ∧ Fld Z h a1 "com/example/titlepoint/titlepoint/FieldDefinition" "others" "Ljava/lang/String;" (.ref a9) ∧ Fld Z h a1 "com/example/titlepoint/titlepoint/FieldDefinition" "repeatable" "Ljava/lang/String;" (.ref a10) ∧ Fld Z h a1 "com/example/titlepoint/titlepoint/FieldDefinition" "required" "Ljava/lang/String;" (.ref a11) ∧ Fld Z h a1 "com/example/titlepoint/titlepoint/FieldDefinition" "subfieldLabels" "Ljava/util/Map;" .null ∧ Fld Z h a1 "com/example/titlepoint/titlepoint/FieldDefinition" "entity" "Ljava/lang/String;" (.ref a13) ∧ Fld Z h a1 "com/example/titlepoint/titlepoint/FieldDefinition" "embeds" "Ljava/lang/String;" (.ref a14) ∧ Fld Z h a1 "com/example/titlepoint/titlepoint/FieldDefinition" "standardIndicator2" "Ljava/lang/String;" (.ref a15)
set_option maxRecDepth 65536 in
set_option maxHeartbeats 40000000 in
theorem rm2 (l : Launch) (Z : State) (a0 : Array Value) (hw : ∀ d ∈ tables_1, d.before a0 Z = true) (ws : List Jvm.Cond) (a1 : Addr) (a2 : Addr) (a3 : Addr) (p4 : Int32) (a5 : Addr) (a6 : Addr) (a7 : Addr) (a8 : Addr) (a9 : Addr) (a10 : Addr) (a11 : Addr) (a13 : Addr) (a14 : Addr) (a15 : Addr) (w_fieldRepeatable_a1 : Int32) (h0 : Heap) (n0 : Nat) (Z0 : n0 ≤ h0.size) (E_a1 : Exa Z h0 a1 "com/example/titlepoint/titlepoint/FieldDefinition") (g_a1 : n0 ≤ a1) (F_tag_a1 : Fld Z h0 a1 "com/example/titlepoint/titlepoint/FieldDefinition" "tag" "Ljava/lang/String;" .null) (F_label_a1 : Fld Z h0 a1 "com/example/titlepoint/titlepoint/FieldDefinition" "label" "Ljava/lang/String;" .null) (F_fieldRepeatable_a1 : Fld Z h0 a1 "com/example/titlepoint/titlepoint/FieldDefinition" "fieldRepeatable" "Z" (.int w_fieldRepeatable_a1)) (F_indicator1_a1 : Fld Z h0 a1 "com/example/titlepoint/titlepoint/FieldDefinition" "indicator1" "Ljava/lang/String;" .null) (F_indicator2_a1 : Fld Z h0 a1 "com/example/titlepoint/titlepoint/FieldDefinition" "indicator2" "Ljava/lang/String;" .null) (F_work_a1 : Fld Z h0 a1 "com/example/titlepoint/titlepoint/FieldDefinition" "work" "Ljava/lang/String;" .null) (F_expression_a1 : Fld Z h0 a1 "com/example/titlepoint/titlepoint/FieldDefinition" "expression" "Ljava/lang/String;" .null) (F_others_a1 : Fld Z h0 a1 "com/example/titlepoint/titlepoint/FieldDefinition" "others" "Ljava/lang/String;" .null) (F_repeatable_a1 : Fld Z h0 a1 "com/example/titlepoint/titlepoint/FieldDefinition" "repeatable" "Ljava/lang/String;" .null) (F_required_a1 : Fld Z h0 a1 "com/example/titlepoint/titlepoint/FieldDefinition" "required" "Ljava/lang/String;" .null) (F_subfieldLabels_a1 : Fld Z h0 a1 "com/example/titlepoint/titlepoint/FieldDefinition" "subfieldLabels" "Ljava/util/Map;" .null) (F_entity_a1 : Fld Z h0 a1 "com/example/titlepoint/titlepoint/FieldDefinition" "entity" "Ljava/lang/String;" .null) (F_embeds_a1 : Fld Z h0 a1 "com/example/titlepoint/titlepoint/FieldDefinition" "embeds" "Ljava/lang/String;" .null) (F_standardIndicator2_a1 : Fld Z h0 a1 "com/example/titlepoint/titlepoint/FieldDefinition" "standardIndicator2" "Ljava/lang/String;" .null) :
    MetFree l (⟨"com/example/titlepoint/titlepoint/FieldDefinition", "<init>", "(Ljava/lang/String;Ljava/lang/String;ZLjava/lang/String;Ljava/lang/String;Ljava/lang/String;Ljava/lang/String;Ljava/lang/String;Ljava/lang/String;Ljava/lang/String;Ljava/util/Map;Ljava/lang/String;Ljava/lang/String;Ljava/lang/String;)V"⟩ : MethodName) (head1 (Jvm.Cond.code (⟨"com/example/titlepoint/titlepoint/FieldDefinition", "<init>", "(Ljava/lang/String;Ljava/lang/String;ZLjava/lang/String;Ljava/lang/String;Ljava/lang/String;Ljava/lang/String;Ljava/lang/String;Ljava/lang/String;Ljava/lang/String;Ljava/util/Map;Ljava/lang/String;Ljava/lang/String;Ljava/lang/String;)V"⟩ : MethodName) prog_6_method_1_code 15 none :: ws) ({ frames := 2, cells := 0, slots := 0, locals := 24 } : Room)) (fun a U => a = #[(.ref a1), (.ref a2), (.ref a3), (.int p4), (.ref a5), (.ref a6), (.ref a7), (.ref a8), (.ref a9), (.ref a10), (.ref a11), .null, (.ref a13), (.ref a14), (.ref a15)] ∧ Z.Warmed39 U.vm ∧ U.heap = h0) (fun _ _ _ _ _ => True) (fun _ U o U' => ∃ v L, o = .returned v ∧ Q2 Z a1 a2 a3 p4 a5 a6 a7 a8 a9 a10 a11 a13 a14 a15 w_fieldRepeatable_a1 h0 n0 v U'.heap L ∧ FrameEnd U o U' L ({ frames := 2, cells := 0, slots := 0, locals := 24 } : Room).cells ({ frames := 2, cells := 0, slots := 0, locals := 24 } : Room).slots) := by
  refine MetFree.of_bodySF (plainFor_of_name pn_4) hisR ?_
  intro p e s m args below meth c s₁ Bd hml0 hP hK
  obtain ⟨rfl, hZ, hh⟩ := hP
  have hx := Bd.exec
  have hby := Bd.bytes
  have hml : c.maxLocals = 15 := hml0
  have hown : s.vm.findClass "com/example/titlepoint/titlepoint/FieldDefinition" = some m.cls := findClass_of_methodNamed Bd.named
  have hnm := (name_of_methodNamed Bd.named Bd.method).1
  have X0 : Stand p l e ({ frames := 2, cells := 0, slots := 0, locals := 24 } : Room) s m #[(.ref a1), (.ref a2), (.ref a3), (.int p4), (.ref a5), (.ref a6), (.ref a7), (.ref a8), (.ref a9), (.ref a10), (.ref a11), .null, (.ref a13), (.ref a14), (.ref a15)] below meth c s₁ [] 0 0 := Stand.of_body Bd
  have e0 : s₁.heap = h0 := by rw [← hh, Bd.state]; rfl
  have N0 := Fr.nil n0
  have pre0 : ∀ t, Steps p.tables e below (s₁.setTop (mkF m 0 #[.val (.ref a1), .val (.ref a2), .val (.ref a3), .val (.int p4), .val (.ref a5), .val (.ref a6), .val (.ref a7), .val (.ref a8), .val (.ref a9), .val (.ref a10), .val (.ref a11), .val .null, .val (.ref a13), .val (.ref a14), .val (.ref a15)] [])) t → Steps p.tables e below (s₁.setTop (entryFrame m #[(.ref a1), (.ref a2), (.ref a3), (.int p4), (.ref a5), (.ref a6), (.ref a7), (.ref a8), (.ref a9), (.ref a10), (.ref a11), .null, (.ref a13), (.ref a14), (.ref a15)] 15)) t := fun t k => castTop (ef_2 m a1 a2 a3 p4 a5 a6 a7 a8 a9 a10 a11 a13 a14 a15) k
  obtain ⟨_, _, ⟨T16, L16, k16, n16⟩, -, X16, ⟨Lc16, hQ16, l16, y16, z16⟩, st16⟩ := X0.specialBack hx (y := (⟨"java/lang/Record", "<init>", "()V"⟩ : MethodName)) rfl hown (mvT hZ (hw _ (List.mem_of_getElem? (i := 23) rfl))) (mvT hZ (hw _ (List.mem_of_getElem? (i := 24) rfl))) (mvT hZ (hw _ (List.mem_of_getElem? (i := 27) rfl))) (by decide) (backOf (W := 0) (rm3 l Z a0 hw [] a1 h0 n0 Z0 ) hZ (hw _ (List.mem_of_getElem? (i := 27) rfl)) (hw _ (List.mem_of_getElem? (i := 26) rfl)) (by decide) (by decide)) (g := (mkF m 1 #[.val (.ref a1), .val (.ref a2), .val (.ref a3), .val (.int p4), .val (.ref a5), .val (.ref a6), .val (.ref a7), .val (.ref a8), .val (.ref a9), .val (.ref a10), .val (.ref a11), .val .null, .val (.ref a13), .val (.ref a14), .val (.ref a15)] [(.ref a1)])) rfl (by rw [hml]; rfl) (Steps.refl _) (a := a1) (argsL := []) (rest := []) (lenOf pd_10 rfl) rfl (by show 2 * 0 + _ ≤ _; exact Nat.le_of_eq rfl) (hb hby d2_1) (fun _ _ => ⟨rfl, e0, (by decide : 0 + 0 ≤ _), (by decide : 0 + 0 ≤ _)⟩)
  dsimp only [Pt.U, Pt.locs, Pt.cells, Pt.slots] at X16 l16 y16 z16 st16 hQ16
  subst l16 y16 z16
  obtain ⟨rfl, N16q, e16⟩ := hQ16
  have N16 := Fr.app N0 N16q
  obtain ⟨T17, h17, X17, e17, W17, st17⟩ := putF X16 hx hZ hown (host := "") (Or.inl (hw _ (List.mem_of_getElem? (i := 31) rfl))) Via.refl e16 F_tag_a1 E_a1 (Or.inr ⟨(hw _ (List.mem_of_getElem? (i := 32) rfl)), rfl, hnm⟩) (hw _ (List.mem_of_getElem? (i := 14) rfl)) (ty := (.object "java/lang/String")) (by decide) rfl rfl (g := (mkF m 6 #[.val (.ref a1), .val (.ref a2), .val (.ref a3), .val (.int p4), .val (.ref a5), .val (.ref a6), .val (.ref a7), .val (.ref a8), .val (.ref a9), .val (.ref a10), .val (.ref a11), .val .null, .val (.ref a13), .val (.ref a14), .val (.ref a15)] [(.ref a2), (.ref a1)])) rfl rfl (hb hby d2_6)
  have N17 := Fr.snoc X17 N16 g_a1
  have c18 : n0 ≤ h17.size := Nat.le_trans Z0 (Keep.of_wr W17).1
  have c19 : Exa Z h17 a1 "com/example/titlepoint/titlepoint/FieldDefinition" := E_a1.wr W17
  have c20 : Fld Z h17 a1 "com/example/titlepoint/titlepoint/FieldDefinition" "tag" "Ljava/lang/String;" (.ref a2) := F_tag_a1.same W17
  have c21 : Fld Z h17 a1 "com/example/titlepoint/titlepoint/FieldDefinition" "label" "Ljava/lang/String;" .null := F_label_a1.other W17 (Or.inr (slot_ne (Or.inr (hw _ (List.mem_of_getElem? (i := 34) rfl))) (Or.inr (hw _ (List.mem_of_getElem? (i := 32) rfl))) (by decide) (t := (.object "java/lang/String")) (t' := (.object "java/lang/String")) (by decide) (by decide)))
  have c22 : Fld Z h17 a1 "com/example/titlepoint/titlepoint/FieldDefinition" "fieldRepeatable" "Z" (.int w_fieldRepeatable_a1) := F_fieldRepeatable_a1.other W17 (Or.inr (slot_ne (Or.inr (hw _ (List.mem_of_getElem? (i := 36) rfl))) (Or.inr (hw _ (List.mem_of_getElem? (i := 32) rfl))) (by decide) (t := .boolean) (t' := (.object "java/lang/String")) (by decide) (by decide)))
  have c23 : Fld Z h17 a1 "com/example/titlepoint/titlepoint/FieldDefinition" "indicator1" "Ljava/lang/String;" .null := F_indicator1_a1.other W17 (Or.inr (slot_ne (Or.inr (hw _ (List.mem_of_getElem? (i := 38) rfl))) (Or.inr (hw _ (List.mem_of_getElem? (i := 32) rfl))) (by decide) (t := (.object "java/lang/String")) (t' := (.object "java/lang/String")) (by decide) (by decide)))
  have c24 : Fld Z h17 a1 "com/example/titlepoint/titlepoint/FieldDefinition" "indicator2" "Ljava/lang/String;" .null := F_indicator2_a1.other W17 (Or.inr (slot_ne (Or.inr (hw _ (List.mem_of_getElem? (i := 40) rfl))) (Or.inr (hw _ (List.mem_of_getElem? (i := 32) rfl))) (by decide) (t := (.object "java/lang/String")) (t' := (.object "java/lang/String")) (by decide) (by decide)))
  have c25 : Fld Z h17 a1 "com/example/titlepoint/titlepoint/FieldDefinition" "work" "Ljava/lang/String;" .null := F_work_a1.other W17 (Or.inr (slot_ne (Or.inr (hw _ (List.mem_of_getElem? (i := 42) rfl))) (Or.inr (hw _ (List.mem_of_getElem? (i := 32) rfl))) (by decide) (t := (.object "java/lang/String")) (t' := (.object "java/lang/String")) (by decide) (by decide)))
  have c26 : Fld Z h17 a1 "com/example/titlepoint/titlepoint/FieldDefinition" "expression" "Ljava/lang/String;" .null := F_expression_a1.other W17 (Or.inr (slot_ne (Or.inr (hw _ (List.mem_of_getElem? (i := 44) rfl))) (Or.inr (hw _ (List.mem_of_getElem? (i := 32) rfl))) (by decide) (t := (.object "java/lang/String")) (t' := (.object "java/lang/String")) (by decide) (by decide)))
  have c27 : Fld Z h17 a1 "com/example/titlepoint/titlepoint/FieldDefinition" "others" "Ljava/lang/String;" .null := F_others_a1.other W17 (Or.inr (slot_ne (Or.inr (hw _ (List.mem_of_getElem? (i := 46) rfl))) (Or.inr (hw _ (List.mem_of_getElem? (i := 32) rfl))) (by decide) (t := (.object "java/lang/String")) (t' := (.object "java/lang/String")) (by decide) (by decide)))
  have c28 : Fld Z h17 a1 "com/example/titlepoint/titlepoint/FieldDefinition" "repeatable" "Ljava/lang/String;" .null := F_repeatable_a1.other W17 (Or.inr (slot_ne (Or.inr (hw _ (List.mem_of_getElem? (i := 48) rfl))) (Or.inr (hw _ (List.mem_of_getElem? (i := 32) rfl))) (by decide) (t := (.object "java/lang/String")) (t' := (.object "java/lang/String")) (by decide) (by decide)))
  have c29 : Fld Z h17 a1 "com/example/titlepoint/titlepoint/FieldDefinition" "required" "Ljava/lang/String;" .null := F_required_a1.other W17 (Or.inr (slot_ne (Or.inr (hw _ (List.mem_of_getElem? (i := 50) rfl))) (Or.inr (hw _ (List.mem_of_getElem? (i := 32) rfl))) (by decide) (t := (.object "java/lang/String")) (t' := (.object "java/lang/String")) (by decide) (by decide)))
  have c30 : Fld Z h17 a1 "com/example/titlepoint/titlepoint/FieldDefinition" "subfieldLabels" "Ljava/util/Map;" .null := F_subfieldLabels_a1.other W17 (Or.inr (slot_ne (Or.inr (hw _ (List.mem_of_getElem? (i := 52) rfl))) (Or.inr (hw _ (List.mem_of_getElem? (i := 32) rfl))) (by decide) (t := (.object "java/util/Map")) (t' := (.object "java/lang/String")) (by decide) (by decide)))
  have c31 : Fld Z h17 a1 "com/example/titlepoint/titlepoint/FieldDefinition" "entity" "Ljava/lang/String;" .null := F_entity_a1.other W17 (Or.inr (slot_ne (Or.inr (hw _ (List.mem_of_getElem? (i := 54) rfl))) (Or.inr (hw _ (List.mem_of_getElem? (i := 32) rfl))) (by decide) (t := (.object "java/lang/String")) (t' := (.object "java/lang/String")) (by decide) (by decide)))
  have c32 : Fld Z h17 a1 "com/example/titlepoint/titlepoint/FieldDefinition" "embeds" "Ljava/lang/String;" .null := F_embeds_a1.other W17 (Or.inr (slot_ne (Or.inr (hw _ (List.mem_of_getElem? (i := 56) rfl))) (Or.inr (hw _ (List.mem_of_getElem? (i := 32) rfl))) (by decide) (t := (.object "java/lang/String")) (t' := (.object "java/lang/String")) (by decide) (by decide)))
  have c33 : Fld Z h17 a1 "com/example/titlepoint/titlepoint/FieldDefinition" "standardIndicator2" "Ljava/lang/String;" .null := F_standardIndicator2_a1.other W17 (Or.inr (slot_ne (Or.inr (hw _ (List.mem_of_getElem? (i := 58) rfl))) (Or.inr (hw _ (List.mem_of_getElem? (i := 32) rfl))) (by decide) (t := (.object "java/lang/String")) (t' := (.object "java/lang/String")) (by decide) (by decide)))
  have c34 : Keep h0 h17 [a1] := (Keep.refl h0 [a1]).wr W17 (Or.inl (List.mem_of_getElem? (i := 0) rfl))
  obtain ⟨T35, h35, X35, e35, W35, st35⟩ := putF X17 hx hZ hown (host := "") (Or.inl (hw _ (List.mem_of_getElem? (i := 33) rfl))) Via.refl e17 c21 c19 (Or.inr ⟨(hw _ (List.mem_of_getElem? (i := 34) rfl)), rfl, hnm⟩) (hw _ (List.mem_of_getElem? (i := 14) rfl)) (ty := (.object "java/lang/String")) (by decide) rfl rfl (g := (mkF m 11 #[.val (.ref a1), .val (.ref a2), .val (.ref a3), .val (.int p4), .val (.ref a5), .val (.ref a6), .val (.ref a7), .val (.ref a8), .val (.ref a9), .val (.ref a10), .val (.ref a11), .val .null, .val (.ref a13), .val (.ref a14), .val (.ref a15)] [(.ref a3), (.ref a1)])) rfl rfl (hb hby d2_11)
  have N35 := Fr.snoc X35 N17 g_a1
  have c36 : n0 ≤ h35.size := Nat.le_trans c18 (Keep.of_wr W35).1
  have c37 : Exa Z h35 a1 "com/example/titlepoint/titlepoint/FieldDefinition" := c19.wr W35
  have c38 : Fld Z h35 a1 "com/example/titlepoint/titlepoint/FieldDefinition" "tag" "Ljava/lang/String;" (.ref a2) := c20.other W35 (Or.inr (slot_ne (Or.inr (hw _ (List.mem_of_getElem? (i := 32) rfl))) (Or.inr (hw _ (List.mem_of_getElem? (i := 34) rfl))) (by decide) (t := (.object "java/lang/String")) (t' := (.object "java/lang/String")) (by decide) (by decide)))
  have c39 : Fld Z h35 a1 "com/example/titlepoint/titlepoint/FieldDefinition" "label" "Ljava/lang/String;" (.ref a3) := c21.same W35
  have c40 : Fld Z h35 a1 "com/example/titlepoint/titlepoint/FieldDefinition" "fieldRepeatable" "Z" (.int w_fieldRepeatable_a1) := c22.other W35 (Or.inr (slot_ne (Or.inr (hw _ (List.mem_of_getElem? (i := 36) rfl))) (Or.inr (hw _ (List.mem_of_getElem? (i := 34) rfl))) (by decide) (t := .boolean) (t' := (.object "java/lang/String")) (by decide) (by decide)))
  have c41 : Fld Z h35 a1 "com/example/titlepoint/titlepoint/FieldDefinition" "indicator1" "Ljava/lang/String;" .null := c23.other W35 (Or.inr (slot_ne (Or.inr (hw _ (List.mem_of_getElem? (i := 38) rfl))) (Or.inr (hw _ (List.mem_of_getElem? (i := 34) rfl))) (by decide) (t := (.object "java/lang/String")) (t' := (.object "java/lang/String")) (by decide) (by decide)))
  have c42 : Fld Z h35 a1 "com/example/titlepoint/titlepoint/FieldDefinition" "indicator2" "Ljava/lang/String;" .null := c24.other W35 (Or.inr (slot_ne (Or.inr (hw _ (List.mem_of_getElem? (i := 40) rfl))) (Or.inr (hw _ (List.mem_of_getElem? (i := 34) rfl))) (by decide) (t := (.object "java/lang/String")) (t' := (.object "java/lang/String")) (by decide) (by decide)))
  have c43 : Fld Z h35 a1 "com/example/titlepoint/titlepoint/FieldDefinition" "work" "Ljava/lang/String;" .null := c25.other W35 (Or.inr (slot_ne (Or.inr (hw _ (List.mem_of_getElem? (i := 42) rfl))) (Or.inr (hw _ (List.mem_of_getElem? (i := 34) rfl))) (by decide) (t := (.object "java/lang/String")) (t' := (.object "java/lang/String")) (by decide) (by decide)))
  have c44 : Fld Z h35 a1 "com/example/titlepoint/titlepoint/FieldDefinition" "expression" "Ljava/lang/String;" .null := c26.other W35 (Or.inr (slot_ne (Or.inr (hw _ (List.mem_of_getElem? (i := 44) rfl))) (Or.inr (hw _ (List.mem_of_getElem? (i := 34) rfl))) (by decide) (t := (.object "java/lang/String")) (t' := (.object "java/lang/String")) (by decide) (by decide)))
  have c45 : Fld Z h35 a1 "com/example/titlepoint/titlepoint/FieldDefinition" "others" "Ljava/lang/String;" .null := c27.other W35 (Or.inr (slot_ne (Or.inr (hw _ (List.mem_of_getElem? (i := 46) rfl))) (Or.inr (hw _ (List.mem_of_getElem? (i := 34) rfl))) (by decide) (t := (.object "java/lang/String")) (t' := (.object "java/lang/String")) (by decide) (by decide)))
  have c46 : Fld Z h35 a1 "com/example/titlepoint/titlepoint/FieldDefinition" "repeatable" "Ljava/lang/String;" .null := c28.other W35 (Or.inr (slot_ne (Or.inr (hw _ (List.mem_of_getElem? (i := 48) rfl))) (Or.inr (hw _ (List.mem_of_getElem? (i := 34) rfl))) (by decide) (t := (.object "java/lang/String")) (t' := (.object "java/lang/String")) (by decide) (by decide)))
  have c47 : Fld Z h35 a1 "com/example/titlepoint/titlepoint/FieldDefinition" "required" "Ljava/lang/String;" .null := c29.other W35 (Or.inr (slot_ne (Or.inr (hw _ (List.mem_of_getElem? (i := 50) rfl))) (Or.inr (hw _ (List.mem_of_getElem? (i := 34) rfl))) (by decide) (t := (.object "java/lang/String")) (t' := (.object "java/lang/String")) (by decide) (by decide)))
  have c48 : Fld Z h35 a1 "com/example/titlepoint/titlepoint/FieldDefinition" "subfieldLabels" "Ljava/util/Map;" .null := c30.other W35 (Or.inr (slot_ne (Or.inr (hw _ (List.mem_of_getElem? (i := 52) rfl))) (Or.inr (hw _ (List.mem_of_getElem? (i := 34) rfl))) (by decide) (t := (.object "java/util/Map")) (t' := (.object "java/lang/String")) (by decide) (by decide)))
  have c49 : Fld Z h35 a1 "com/example/titlepoint/titlepoint/FieldDefinition" "entity" "Ljava/lang/String;" .null := c31.other W35 (Or.inr (slot_ne (Or.inr (hw _ (List.mem_of_getElem? (i := 54) rfl))) (Or.inr (hw _ (List.mem_of_getElem? (i := 34) rfl))) (by decide) (t := (.object "java/lang/String")) (t' := (.object "java/lang/String")) (by decide) (by decide)))
  have c50 : Fld Z h35 a1 "com/example/titlepoint/titlepoint/FieldDefinition" "embeds" "Ljava/lang/String;" .null := c32.other W35 (Or.inr (slot_ne (Or.inr (hw _ (List.mem_of_getElem? (i := 56) rfl))) (Or.inr (hw _ (List.mem_of_getElem? (i := 34) rfl))) (by decide) (t := (.object "java/lang/String")) (t' := (.object "java/lang/String")) (by decide) (by decide)))
  have c51 : Fld Z h35 a1 "com/example/titlepoint/titlepoint/FieldDefinition" "standardIndicator2" "Ljava/lang/String;" .null := c33.other W35 (Or.inr (slot_ne (Or.inr (hw _ (List.mem_of_getElem? (i := 58) rfl))) (Or.inr (hw _ (List.mem_of_getElem? (i := 34) rfl))) (by decide) (t := (.object "java/lang/String")) (t' := (.object "java/lang/String")) (by decide) (by decide)))
  have c52 : Keep h0 h35 [a1] := c34.wr W35 (Or.inl (List.mem_of_getElem? (i := 0) rfl))
  obtain ⟨T53, h53, X53, e53, W53, st53⟩ := putFN X35 hx hZ hown (hw _ (List.mem_of_getElem? (i := 35) rfl)) Via.refl e35 c40 c37 (Or.inr ⟨(hw _ (List.mem_of_getElem? (i := 36) rfl)), rfl, hnm⟩) (hw _ (List.mem_of_getElem? (i := 14) rfl)) (ty := .boolean) (v' := (.int (nar .boolean p4))) (by decide) rfl (fits_nar_bool _) (g := (mkF m 16 #[.val (.ref a1), .val (.ref a2), .val (.ref a3), .val (.int p4), .val (.ref a5), .val (.ref a6), .val (.ref a7), .val (.ref a8), .val (.ref a9), .val (.ref a10), .val (.ref a11), .val .null, .val (.ref a13), .val (.ref a14), .val (.ref a15)] [(.int p4), (.ref a1)])) rfl rfl (hb hby d2_16)
  have N53 := Fr.snoc X53 N35 g_a1
  have c54 : n0 ≤ h53.size := Nat.le_trans c36 (Keep.of_wr W53).1
  have c55 : Exa Z h53 a1 "com/example/titlepoint/titlepoint/FieldDefinition" := c37.wr W53
  have c56 : Fld Z h53 a1 "com/example/titlepoint/titlepoint/FieldDefinition" "tag" "Ljava/lang/String;" (.ref a2) := c38.other W53 (Or.inr (slot_ne (Or.inr (hw _ (List.mem_of_getElem? (i := 32) rfl))) (Or.inr (hw _ (List.mem_of_getElem? (i := 36) rfl))) (by decide) (t := (.object "java/lang/String")) (t' := .boolean) (by decide) (by decide)))
  have c57 : Fld Z h53 a1 "com/example/titlepoint/titlepoint/FieldDefinition" "label" "Ljava/lang/String;" (.ref a3) := c39.other W53 (Or.inr (slot_ne (Or.inr (hw _ (List.mem_of_getElem? (i := 34) rfl))) (Or.inr (hw _ (List.mem_of_getElem? (i := 36) rfl))) (by decide) (t := (.object "java/lang/String")) (t' := .boolean) (by decide) (by decide)))
  have c58 : Fld Z h53 a1 "com/example/titlepoint/titlepoint/FieldDefinition" "fieldRepeatable" "Z" (.int (nar .boolean p4)) := c40.same W53
  have c59 : Fld Z h53 a1 "com/example/titlepoint/titlepoint/FieldDefinition" "indicator1" "Ljava/lang/String;" .null := c41.other W53 (Or.inr (slot_ne (Or.inr (hw _ (List.mem_of_getElem? (i := 38) rfl))) (Or.inr (hw _ (List.mem_of_getElem? (i := 36) rfl))) (by decide) (t := (.object "java/lang/String")) (t' := .boolean) (by decide) (by decide)))
  have c60 : Fld Z h53 a1 "com/example/titlepoint/titlepoint/FieldDefinition" "indicator2" "Ljava/lang/String;" .null := c42.other W53 (Or.inr (slot_ne (Or.inr (hw _ (List.mem_of_getElem? (i := 40) rfl))) (Or.inr (hw _ (List.mem_of_getElem? (i := 36) rfl))) (by decide) (t := (.object "java/lang/String")) (t' := .boolean) (by decide) (by decide)))
  have c61 : Fld Z h53 a1 "com/example/titlepoint/titlepoint/FieldDefinition" "work" "Ljava/lang/String;" .null := c43.other W53 (Or.inr (slot_ne (Or.inr (hw _ (List.mem_of_getElem? (i := 42) rfl))) (Or.inr (hw _ (List.mem_of_getElem? (i := 36) rfl))) (by decide) (t := (.object "java/lang/String")) (t' := .boolean) (by decide) (by decide)))
  have c62 : Fld Z h53 a1 "com/example/titlepoint/titlepoint/FieldDefinition" "expression" "Ljava/lang/String;" .null := c44.other W53 (Or.inr (slot_ne (Or.inr (hw _ (List.mem_of_getElem? (i := 44) rfl))) (Or.inr (hw _ (List.mem_of_getElem? (i := 36) rfl))) (by decide) (t := (.object "java/lang/String")) (t' := .boolean) (by decide) (by decide)))
  have c63 : Fld Z h53 a1 "com/example/titlepoint/titlepoint/FieldDefinition" "others" "Ljava/lang/String;" .null := c45.other W53 (Or.inr (slot_ne (Or.inr (hw _ (List.mem_of_getElem? (i := 46) rfl))) (Or.inr (hw _ (List.mem_of_getElem? (i := 36) rfl))) (by decide) (t := (.object "java/lang/String")) (t' := .boolean) (by decide) (by decide)))
  have c64 : Fld Z h53 a1 "com/example/titlepoint/titlepoint/FieldDefinition" "repeatable" "Ljava/lang/String;" .null := c46.other W53 (Or.inr (slot_ne (Or.inr (hw _ (List.mem_of_getElem? (i := 48) rfl))) (Or.inr (hw _ (List.mem_of_getElem? (i := 36) rfl))) (by decide) (t := (.object "java/lang/String")) (t' := .boolean) (by decide) (by decide)))
  have c65 : Fld Z h53 a1 "com/example/titlepoint/titlepoint/FieldDefinition" "required" "Ljava/lang/String;" .null := c47.other W53 (Or.inr (slot_ne (Or.inr (hw _ (List.mem_of_getElem? (i := 50) rfl))) (Or.inr (hw _ (List.mem_of_getElem? (i := 36) rfl))) (by decide) (t := (.object "java/lang/String")) (t' := .boolean) (by decide) (by decide)))
  have c66 : Fld Z h53 a1 "com/example/titlepoint/titlepoint/FieldDefinition" "subfieldLabels" "Ljava/util/Map;" .null := c48.other W53 (Or.inr (slot_ne (Or.inr (hw _ (List.mem_of_getElem? (i := 52) rfl))) (Or.inr (hw _ (List.mem_of_getElem? (i := 36) rfl))) (by decide) (t := (.object "java/util/Map")) (t' := .boolean) (by decide) (by decide)))
  have c67 : Fld Z h53 a1 "com/example/titlepoint/titlepoint/FieldDefinition" "entity" "Ljava/lang/String;" .null := c49.other W53 (Or.inr (slot_ne (Or.inr (hw _ (List.mem_of_getElem? (i := 54) rfl))) (Or.inr (hw _ (List.mem_of_getElem? (i := 36) rfl))) (by decide) (t := (.object "java/lang/String")) (t' := .boolean) (by decide) (by decide)))
  have c68 : Fld Z h53 a1 "com/example/titlepoint/titlepoint/FieldDefinition" "embeds" "Ljava/lang/String;" .null := c50.other W53 (Or.inr (slot_ne (Or.inr (hw _ (List.mem_of_getElem? (i := 56) rfl))) (Or.inr (hw _ (List.mem_of_getElem? (i := 36) rfl))) (by decide) (t := (.object "java/lang/String")) (t' := .boolean) (by decide) (by decide)))
  have c69 : Fld Z h53 a1 "com/example/titlepoint/titlepoint/FieldDefinition" "standardIndicator2" "Ljava/lang/String;" .null := c51.other W53 (Or.inr (slot_ne (Or.inr (hw _ (List.mem_of_getElem? (i := 58) rfl))) (Or.inr (hw _ (List.mem_of_getElem? (i := 36) rfl))) (by decide) (t := (.object "java/lang/String")) (t' := .boolean) (by decide) (by decide)))
  have c70 : Keep h0 h53 [a1] := c52.wr W53 (Or.inl (List.mem_of_getElem? (i := 0) rfl))
  obtain ⟨T71, h71, X71, e71, W71, st71⟩ := putF X53 hx hZ hown (host := "") (Or.inl (hw _ (List.mem_of_getElem? (i := 37) rfl))) Via.refl e53 c59 c55 (Or.inr ⟨(hw _ (List.mem_of_getElem? (i := 38) rfl)), rfl, hnm⟩) (hw _ (List.mem_of_getElem? (i := 14) rfl)) (ty := (.object "java/lang/String")) (by decide) rfl rfl (g := (mkF m 22 #[.val (.ref a1), .val (.ref a2), .val (.ref a3), .val (.int p4), .val (.ref a5), .val (.ref a6), .val (.ref a7), .val (.ref a8), .val (.ref a9), .val (.ref a10), .val (.ref a11), .val .null, .val (.ref a13), .val (.ref a14), .val (.ref a15)] [(.ref a5), (.ref a1)])) rfl rfl (hb hby d2_22)
  have N71 := Fr.snoc X71 N53 g_a1
  have c72 : n0 ≤ h71.size := Nat.le_trans c54 (Keep.of_wr W71).1
  have c73 : Exa Z h71 a1 "com/example/titlepoint/titlepoint/FieldDefinition" := c55.wr W71
  have c74 : Fld Z h71 a1 "com/example/titlepoint/titlepoint/FieldDefinition" "tag" "Ljava/lang/String;" (.ref a2) := c56.other W71 (Or.inr (slot_ne (Or.inr (hw _ (List.mem_of_getElem? (i := 32) rfl))) (Or.inr (hw _ (List.mem_of_getElem? (i := 38) rfl))) (by decide) (t := (.object "java/lang/String")) (t' := (.object "java/lang/String")) (by decide) (by decide)))
  have c75 : Fld Z h71 a1 "com/example/titlepoint/titlepoint/FieldDefinition" "label" "Ljava/lang/String;" (.ref a3) := c57.other W71 (Or.inr (slot_ne (Or.inr (hw _ (List.mem_of_getElem? (i := 34) rfl))) (Or.inr (hw _ (List.mem_of_getElem? (i := 38) rfl))) (by decide) (t := (.object "java/lang/String")) (t' := (.object "java/lang/String")) (by decide) (by decide)))
  have c76 : Fld Z h71 a1 "com/example/titlepoint/titlepoint/FieldDefinition" "fieldRepeatable" "Z" (.int (nar .boolean p4)) := c58.other W71 (Or.inr (slot_ne (Or.inr (hw _ (List.mem_of_getElem? (i := 36) rfl))) (Or.inr (hw _ (List.mem_of_getElem? (i := 38) rfl))) (by decide) (t := .boolean) (t' := (.object "java/lang/String")) (by decide) (by decide)))
  have c77 : Fld Z h71 a1 "com/example/titlepoint/titlepoint/FieldDefinition" "indicator1" "Ljava/lang/String;" (.ref a5) := c59.same W71
  have c78 : Fld Z h71 a1 "com/example/titlepoint/titlepoint/FieldDefinition" "indicator2" "Ljava/lang/String;" .null := c60.other W71 (Or.inr (slot_ne (Or.inr (hw _ (List.mem_of_getElem? (i := 40) rfl))) (Or.inr (hw _ (List.mem_of_getElem? (i := 38) rfl))) (by decide) (t := (.object "java/lang/String")) (t' := (.object "java/lang/String")) (by decide) (by decide)))
  have c79 : Fld Z h71 a1 "com/example/titlepoint/titlepoint/FieldDefinition" "work" "Ljava/lang/String;" .null := c61.other W71 (Or.inr (slot_ne (Or.inr (hw _ (List.mem_of_getElem? (i := 42) rfl))) (Or.inr (hw _ (List.mem_of_getElem? (i := 38) rfl))) (by decide) (t := (.object "java/lang/String")) (t' := (.object "java/lang/String")) (by decide) (by decide)))
  have c80 : Fld Z h71 a1 "com/example/titlepoint/titlepoint/FieldDefinition" "expression" "Ljava/lang/String;" .null := c62.other W71 (Or.inr (slot_ne (Or.inr (hw _ (List.mem_of_getElem? (i := 44) rfl))) (Or.inr (hw _ (List.mem_of_getElem? (i := 38) rfl))) (by decide) (t := (.object "java/lang/String")) (t' := (.object "java/lang/String")) (by decide) (by decide)))
  have c81 : Fld Z h71 a1 "com/example/titlepoint/titlepoint/FieldDefinition" "others" "Ljava/lang/String;" .null := c63.other W71 (Or.inr (slot_ne (Or.inr (hw _ (List.mem_of_getElem? (i := 46) rfl))) (Or.inr (hw _ (List.mem_of_getElem? (i := 38) rfl))) (by decide) (t := (.object "java/lang/String")) (t' := (.object "java/lang/String")) (by decide) (by decide)))
  have c82 : Fld Z h71 a1 "com/example/titlepoint/titlepoint/FieldDefinition" "repeatable" "Ljava/lang/String;" .null := c64.other W71 (Or.inr (slot_ne (Or.inr (hw _ (List.mem_of_getElem? (i := 48) rfl))) (Or.inr (hw _ (List.mem_of_getElem? (i := 38) rfl))) (by decide) (t := (.object "java/lang/String")) (t' := (.object "java/lang/String")) (by decide) (by decide)))
  have c83 : Fld Z h71 a1 "com/example/titlepoint/titlepoint/FieldDefinition" "required" "Ljava/lang/String;" .null := c65.other W71 (Or.inr (slot_ne (Or.inr (hw _ (List.mem_of_getElem? (i := 50) rfl))) (Or.inr (hw _ (List.mem_of_getElem? (i := 38) rfl))) (by decide) (t := (.object "java/lang/String")) (t' := (.object "java/lang/String")) (by decide) (by decide)))
  have c84 : Fld Z h71 a1 "com/example/titlepoint/titlepoint/FieldDefinition" "subfieldLabels" "Ljava/util/Map;" .null := c66.other W71 (Or.inr (slot_ne (Or.inr (hw _ (List.mem_of_getElem? (i := 52) rfl))) (Or.inr (hw _ (List.mem_of_getElem? (i := 38) rfl))) (by decide) (t := (.object "java/util/Map")) (t' := (.object "java/lang/String")) (by decide) (by decide)))
  have c85 : Fld Z h71 a1 "com/example/titlepoint/titlepoint/FieldDefinition" "entity" "Ljava/lang/String;" .null := c67.other W71 (Or.inr (slot_ne (Or.inr (hw _ (List.mem_of_getElem? (i := 54) rfl))) (Or.inr (hw _ (List.mem_of_getElem? (i := 38) rfl))) (by decide) (t := (.object "java/lang/String")) (t' := (.object "java/lang/String")) (by decide) (by decide)))
  have c86 : Fld Z h71 a1 "com/example/titlepoint/titlepoint/FieldDefinition" "embeds" "Ljava/lang/String;" .null := c68.other W71 (Or.inr (slot_ne (Or.inr (hw _ (List.mem_of_getElem? (i := 56) rfl))) (Or.inr (hw _ (List.mem_of_getElem? (i := 38) rfl))) (by decide) (t := (.object "java/lang/String")) (t' := (.object "java/lang/String")) (by decide) (by decide)))
  have c87 : Fld Z h71 a1 "com/example/titlepoint/titlepoint/FieldDefinition" "standardIndicator2" "Ljava/lang/String;" .null := c69.other W71 (Or.inr (slot_ne (Or.inr (hw _ (List.mem_of_getElem? (i := 58) rfl))) (Or.inr (hw _ (List.mem_of_getElem? (i := 38) rfl))) (by decide) (t := (.object "java/lang/String")) (t' := (.object "java/lang/String")) (by decide) (by decide)))
  have c88 : Keep h0 h71 [a1] := c70.wr W71 (Or.inl (List.mem_of_getElem? (i := 0) rfl))
  obtain ⟨T89, h89, X89, e89, W89, st89⟩ := putF X71 hx hZ hown (host := "") (Or.inl (hw _ (List.mem_of_getElem? (i := 39) rfl))) Via.refl e71 c78 c73 (Or.inr ⟨(hw _ (List.mem_of_getElem? (i := 40) rfl)), rfl, hnm⟩) (hw _ (List.mem_of_getElem? (i := 14) rfl)) (ty := (.object "java/lang/String")) (by decide) rfl rfl (g := (mkF m 28 #[.val (.ref a1), .val (.ref a2), .val (.ref a3), .val (.int p4), .val (.ref a5), .val (.ref a6), .val (.ref a7), .val (.ref a8), .val (.ref a9), .val (.ref a10), .val (.ref a11), .val .null, .val (.ref a13), .val (.ref a14), .val (.ref a15)] [(.ref a6), (.ref a1)])) rfl rfl (hb hby d2_28)
  have N89 := Fr.snoc X89 N71 g_a1
  have c90 : n0 ≤ h89.size := Nat.le_trans c72 (Keep.of_wr W89).1
  have c91 : Exa Z h89 a1 "com/example/titlepoint/titlepoint/FieldDefinition" := c73.wr W89
  have c92 : Fld Z h89 a1 "com/example/titlepoint/titlepoint/FieldDefinition" "tag" "Ljava/lang/String;" (.ref a2) := c74.other W89 (Or.inr (slot_ne (Or.inr (hw _ (List.mem_of_getElem? (i := 32) rfl))) (Or.inr (hw _ (List.mem_of_getElem? (i := 40) rfl))) (by decide) (t := (.object "java/lang/String")) (t' := (.object "java/lang/String")) (by decide) (by decide)))
  have c93 : Fld Z h89 a1 "com/example/titlepoint/titlepoint/FieldDefinition" "label" "Ljava/lang/String;" (.ref a3) := c75.other W89 (Or.inr (slot_ne (Or.inr (hw _ (List.mem_of_getElem? (i := 34) rfl))) (Or.inr (hw _ (List.mem_of_getElem? (i := 40) rfl))) (by decide) (t := (.object "java/lang/String")) (t' := (.object "java/lang/String")) (by decide) (by decide)))
  have c94 : Fld Z h89 a1 "com/example/titlepoint/titlepoint/FieldDefinition" "fieldRepeatable" "Z" (.int (nar .boolean p4)) := c76.other W89 (Or.inr (slot_ne (Or.inr (hw _ (List.mem_of_getElem? (i := 36) rfl))) (Or.inr (hw _ (List.mem_of_getElem? (i := 40) rfl))) (by decide) (t := .boolean) (t' := (.object "java/lang/String")) (by decide) (by decide)))
  have c95 : Fld Z h89 a1 "com/example/titlepoint/titlepoint/FieldDefinition" "indicator1" "Ljava/lang/String;" (.ref a5) := c77.other W89 (Or.inr (slot_ne (Or.inr (hw _ (List.mem_of_getElem? (i := 38) rfl))) (Or.inr (hw _ (List.mem_of_getElem? (i := 40) rfl))) (by decide) (t := (.object "java/lang/String")) (t' := (.object "java/lang/String")) (by decide) (by decide)))
  have c96 : Fld Z h89 a1 "com/example/titlepoint/titlepoint/FieldDefinition" "indicator2" "Ljava/lang/String;" (.ref a6) := c78.same W89
  have c97 : Fld Z h89 a1 "com/example/titlepoint/titlepoint/FieldDefinition" "work" "Ljava/lang/String;" .null := c79.other W89 (Or.inr (slot_ne (Or.inr (hw _ (List.mem_of_getElem? (i := 42) rfl))) (Or.inr (hw _ (List.mem_of_getElem? (i := 40) rfl))) (by decide) (t := (.object "java/lang/String")) (t' := (.object "java/lang/String")) (by decide) (by decide)))
  have c98 : Fld Z h89 a1 "com/example/titlepoint/titlepoint/FieldDefinition" "expression" "Ljava/lang/String;" .null := c80.other W89 (Or.inr (slot_ne (Or.inr (hw _ (List.mem_of_getElem? (i := 44) rfl))) (Or.inr (hw _ (List.mem_of_getElem? (i := 40) rfl))) (by decide) (t := (.object "java/lang/String")) (t' := (.object "java/lang/String")) (by decide) (by decide)))
  have c99 : Fld Z h89 a1 "com/example/titlepoint/titlepoint/FieldDefinition" "others" "Ljava/lang/String;" .null := c81.other W89 (Or.inr (slot_ne (Or.inr (hw _ (List.mem_of_getElem? (i := 46) rfl))) (Or.inr (hw _ (List.mem_of_getElem? (i := 40) rfl))) (by decide) (t := (.object "java/lang/String")) (t' := (.object "java/lang/String")) (by decide) (by decide)))
  have c100 : Fld Z h89 a1 "com/example/titlepoint/titlepoint/FieldDefinition" "repeatable" "Ljava/lang/String;" .null := c82.other W89 (Or.inr (slot_ne (Or.inr (hw _ (List.mem_of_getElem? (i := 48) rfl))) (Or.inr (hw _ (List.mem_of_getElem? (i := 40) rfl))) (by decide) (t := (.object "java/lang/String")) (t' := (.object "java/lang/String")) (by decide) (by decide)))
  have c101 : Fld Z h89 a1 "com/example/titlepoint/titlepoint/FieldDefinition" "required" "Ljava/lang/String;" .null := c83.other W89 (Or.inr (slot_ne (Or.inr (hw _ (List.mem_of_getElem? (i := 50) rfl))) (Or.inr (hw _ (List.mem_of_getElem? (i := 40) rfl))) (by decide) (t := (.object "java/lang/String")) (t' := (.object "java/lang/String")) (by decide) (by decide)))
  have c102 : Fld Z h89 a1 "com/example/titlepoint/titlepoint/FieldDefinition" "subfieldLabels" "Ljava/util/Map;" .null := c84.other W89 (Or.inr (slot_ne (Or.inr (hw _ (List.mem_of_getElem? (i := 52) rfl))) (Or.inr (hw _ (List.mem_of_getElem? (i := 40) rfl))) (by decide) (t := (.object "java/util/Map")) (t' := (.object "java/lang/String")) (by decide) (by decide)))
  have c103 : Fld Z h89 a1 "com/example/titlepoint/titlepoint/FieldDefinition" "entity" "Ljava/lang/String;" .null := c85.other W89 (Or.inr (slot_ne (Or.inr (hw _ (List.mem_of_getElem? (i := 54) rfl))) (Or.inr (hw _ (List.mem_of_getElem? (i := 40) rfl))) (by decide) (t := (.object "java/lang/String")) (t' := (.object "java/lang/String")) (by decide) (by decide)))
  have c104 : Fld Z h89 a1 "com/example/titlepoint/titlepoint/FieldDefinition" "embeds" "Ljava/lang/String;" .null := c86.other W89 (Or.inr (slot_ne (Or.inr (hw _ (List.mem_of_getElem? (i := 56) rfl))) (Or.inr (hw _ (List.mem_of_getElem? (i := 40) rfl))) (by decide) (t := (.object "java/lang/String")) (t' := (.object "java/lang/String")) (by decide) (by decide)))
  have c105 : Fld Z h89 a1 "com/example/titlepoint/titlepoint/FieldDefinition" "standardIndicator2" "Ljava/lang/String;" .null := c87.other W89 (Or.inr (slot_ne (Or.inr (hw _ (List.mem_of_getElem? (i := 58) rfl))) (Or.inr (hw _ (List.mem_of_getElem? (i := 40) rfl))) (by decide) (t := (.object "java/lang/String")) (t' := (.object "java/lang/String")) (by decide) (by decide)))
  have c106 : Keep h0 h89 [a1] := c88.wr W89 (Or.inl (List.mem_of_getElem? (i := 0) rfl))
  obtain ⟨T107, h107, X107, e107, W107, st107⟩ := putF X89 hx hZ hown (host := "") (Or.inl (hw _ (List.mem_of_getElem? (i := 41) rfl))) Via.refl e89 c97 c91 (Or.inr ⟨(hw _ (List.mem_of_getElem? (i := 42) rfl)), rfl, hnm⟩) (hw _ (List.mem_of_getElem? (i := 14) rfl)) (ty := (.object "java/lang/String")) (by decide) rfl rfl (g := (mkF m 34 #[.val (.ref a1), .val (.ref a2), .val (.ref a3), .val (.int p4), .val (.ref a5), .val (.ref a6), .val (.ref a7), .val (.ref a8), .val (.ref a9), .val (.ref a10), .val (.ref a11), .val .null, .val (.ref a13), .val (.ref a14), .val (.ref a15)] [(.ref a7), (.ref a1)])) rfl rfl (hb hby d2_34)
  have N107 := Fr.snoc X107 N89 g_a1
  have c108 : n0 ≤ h107.size := Nat.le_trans c90 (Keep.of_wr W107).1
  have c109 : Exa Z h107 a1 "com/example/titlepoint/titlepoint/FieldDefinition" := c91.wr W107
  have c110 : Fld Z h107 a1 "com/example/titlepoint/titlepoint/FieldDefinition" "tag" "Ljava/lang/String;" (.ref a2) := c92.other W107 (Or.inr (slot_ne (Or.inr (hw _ (List.mem_of_getElem? (i := 32) rfl))) (Or.inr (hw _ (List.mem_of_getElem? (i := 42) rfl))) (by decide) (t := (.object "java/lang/String")) (t' := (.object "java/lang/String")) (by decide) (by decide)))
  have c111 : Fld Z h107 a1 "com/example/titlepoint/titlepoint/FieldDefinition" "label" "Ljava/lang/String;" (.ref a3) := c93.other W107 (Or.inr (slot_ne (Or.inr (hw _ (List.mem_of_getElem? (i := 34) rfl))) (Or.inr (hw _ (List.mem_of_getElem? (i := 42) rfl))) (by decide) (t := (.object "java/lang/String")) (t' := (.object "java/lang/String")) (by decide) (by decide)))
  have c112 : Fld Z h107 a1 "com/example/titlepoint/titlepoint/FieldDefinition" "fieldRepeatable" "Z" (.int (nar .boolean p4)) := c94.other W107 (Or.inr (slot_ne (Or.inr (hw _ (List.mem_of_getElem? (i := 36) rfl))) (Or.inr (hw _ (List.mem_of_getElem? (i := 42) rfl))) (by decide) (t := .boolean) (t' := (.object "java/lang/String")) (by decide) (by decide)))
  have c113 : Fld Z h107 a1 "com/example/titlepoint/titlepoint/FieldDefinition" "indicator1" "Ljava/lang/String;" (.ref a5) := c95.other W107 (Or.inr (slot_ne (Or.inr (hw _ (List.mem_of_getElem? (i := 38) rfl))) (Or.inr (hw _ (List.mem_of_getElem? (i := 42) rfl))) (by decide) (t := (.object "java/lang/String")) (t' := (.object "java/lang/String")) (by decide) (by decide)))
  have c114 : Fld Z h107 a1 "com/example/titlepoint/titlepoint/FieldDefinition" "indicator2" "Ljava/lang/String;" (.ref a6) := c96.other W107 (Or.inr (slot_ne (Or.inr (hw _ (List.mem_of_getElem? (i := 40) rfl))) (Or.inr (hw _ (List.mem_of_getElem? (i := 42) rfl))) (by decide) (t := (.object "java/lang/String")) (t' := (.object "java/lang/String")) (by decide) (by decide)))
  have c115 : Fld Z h107 a1 "com/example/titlepoint/titlepoint/FieldDefinition" "work" "Ljava/lang/String;" (.ref a7) := c97.same W107
  have c116 : Fld Z h107 a1 "com/example/titlepoint/titlepoint/FieldDefinition" "expression" "Ljava/lang/String;" .null := c98.other W107 (Or.inr (slot_ne (Or.inr (hw _ (List.mem_of_getElem? (i := 44) rfl))) (Or.inr (hw _ (List.mem_of_getElem? (i := 42) rfl))) (by decide) (t := (.object "java/lang/String")) (t' := (.object "java/lang/String")) (by decide) (by decide)))
  have c117 : Fld Z h107 a1 "com/example/titlepoint/titlepoint/FieldDefinition" "others" "Ljava/lang/String;" .null := c99.other W107 (Or.inr (slot_ne (Or.inr (hw _ (List.mem_of_getElem? (i := 46) rfl))) (Or.inr (hw _ (List.mem_of_getElem? (i := 42) rfl))) (by decide) (t := (.object "java/lang/String")) (t' := (.object "java/lang/String")) (by decide) (by decide)))
  have c118 : Fld Z h107 a1 "com/example/titlepoint/titlepoint/FieldDefinition" "repeatable" "Ljava/lang/String;" .null := c100.other W107 (Or.inr (slot_ne (Or.inr (hw _ (List.mem_of_getElem? (i := 48) rfl))) (Or.inr (hw _ (List.mem_of_getElem? (i := 42) rfl))) (by decide) (t := (.object "java/lang/String")) (t' := (.object "java/lang/String")) (by decide) (by decide)))
  have c119 : Fld Z h107 a1 "com/example/titlepoint/titlepoint/FieldDefinition" "required" "Ljava/lang/String;" .null := c101.other W107 (Or.inr (slot_ne (Or.inr (hw _ (List.mem_of_getElem? (i := 50) rfl))) (Or.inr (hw _ (List.mem_of_getElem? (i := 42) rfl))) (by decide) (t := (.object "java/lang/String")) (t' := (.object "java/lang/String")) (by decide) (by decide)))
  have c120 : Fld Z h107 a1 "com/example/titlepoint/titlepoint/FieldDefinition" "subfieldLabels" "Ljava/util/Map;" .null := c102.other W107 (Or.inr (slot_ne (Or.inr (hw _ (List.mem_of_getElem? (i := 52) rfl))) (Or.inr (hw _ (List.mem_of_getElem? (i := 42) rfl))) (by decide) (t := (.object "java/util/Map")) (t' := (.object "java/lang/String")) (by decide) (by decide)))
  have c121 : Fld Z h107 a1 "com/example/titlepoint/titlepoint/FieldDefinition" "entity" "Ljava/lang/String;" .null := c103.other W107 (Or.inr (slot_ne (Or.inr (hw _ (List.mem_of_getElem? (i := 54) rfl))) (Or.inr (hw _ (List.mem_of_getElem? (i := 42) rfl))) (by decide) (t := (.object "java/lang/String")) (t' := (.object "java/lang/String")) (by decide) (by decide)))
  have c122 : Fld Z h107 a1 "com/example/titlepoint/titlepoint/FieldDefinition" "embeds" "Ljava/lang/String;" .null := c104.other W107 (Or.inr (slot_ne (Or.inr (hw _ (List.mem_of_getElem? (i := 56) rfl))) (Or.inr (hw _ (List.mem_of_getElem? (i := 42) rfl))) (by decide) (t := (.object "java/lang/String")) (t' := (.object "java/lang/String")) (by decide) (by decide)))
  have c123 : Fld Z h107 a1 "com/example/titlepoint/titlepoint/FieldDefinition" "standardIndicator2" "Ljava/lang/String;" .null := c105.other W107 (Or.inr (slot_ne (Or.inr (hw _ (List.mem_of_getElem? (i := 58) rfl))) (Or.inr (hw _ (List.mem_of_getElem? (i := 42) rfl))) (by decide) (t := (.object "java/lang/String")) (t' := (.object "java/lang/String")) (by decide) (by decide)))
  have c124 : Keep h0 h107 [a1] := c106.wr W107 (Or.inl (List.mem_of_getElem? (i := 0) rfl))
  obtain ⟨T125, h125, X125, e125, W125, st125⟩ := putF X107 hx hZ hown (host := "") (Or.inl (hw _ (List.mem_of_getElem? (i := 43) rfl))) Via.refl e107 c116 c109 (Or.inr ⟨(hw _ (List.mem_of_getElem? (i := 44) rfl)), rfl, hnm⟩) (hw _ (List.mem_of_getElem? (i := 14) rfl)) (ty := (.object "java/lang/String")) (by decide) rfl rfl (g := (mkF m 40 #[.val (.ref a1), .val (.ref a2), .val (.ref a3), .val (.int p4), .val (.ref a5), .val (.ref a6), .val (.ref a7), .val (.ref a8), .val (.ref a9), .val (.ref a10), .val (.ref a11), .val .null, .val (.ref a13), .val (.ref a14), .val (.ref a15)] [(.ref a8), (.ref a1)])) rfl rfl (hb hby d2_40)
  have N125 := Fr.snoc X125 N107 g_a1
  have c126 : n0 ≤ h125.size := Nat.le_trans c108 (Keep.of_wr W125).1
  have c127 : Exa Z h125 a1 "com/example/titlepoint/titlepoint/FieldDefinition" := c109.wr W125
  have c128 : Fld Z h125 a1 "com/example/titlepoint/titlepoint/FieldDefinition" "tag" "Ljava/lang/String;" (.ref a2) := c110.other W125 (Or.inr (slot_ne (Or.inr (hw _ (List.mem_of_getElem? (i := 32) rfl))) (Or.inr (hw _ (List.mem_of_getElem? (i := 44) rfl))) (by decide) (t := (.object "java/lang/String")) (t' := (.object "java/lang/String")) (by decide) (by decide)))
  have c129 : Fld Z h125 a1 "com/example/titlepoint/titlepoint/FieldDefinition" "label" "Ljava/lang/String;" (.ref a3) := c111.other W125 (Or.inr (slot_ne (Or.inr (hw _ (List.mem_of_getElem? (i := 34) rfl))) (Or.inr (hw _ (List.mem_of_getElem? (i := 44) rfl))) (by decide) (t := (.object "java/lang/String")) (t' := (.object "java/lang/String")) (by decide) (by decide)))
  have c130 : Fld Z h125 a1 "com/example/titlepoint/titlepoint/FieldDefinition" "fieldRepeatable" "Z" (.int (nar .boolean p4)) := c112.other W125 (Or.inr (slot_ne (Or.inr (hw _ (List.mem_of_getElem? (i := 36) rfl))) (Or.inr (hw _ (List.mem_of_getElem? (i := 44) rfl))) (by decide) (t := .boolean) (t' := (.object "java/lang/String")) (by decide) (by decide)))
  have c131 : Fld Z h125 a1 "com/example/titlepoint/titlepoint/FieldDefinition" "indicator1" "Ljava/lang/String;" (.ref a5) := c113.other W125 (Or.inr (slot_ne (Or.inr (hw _ (List.mem_of_getElem? (i := 38) rfl))) (Or.inr (hw _ (List.mem_of_getElem? (i := 44) rfl))) (by decide) (t := (.object "java/lang/String")) (t' := (.object "java/lang/String")) (by decide) (by decide)))
  have c132 : Fld Z h125 a1 "com/example/titlepoint/titlepoint/FieldDefinition" "indicator2" "Ljava/lang/String;" (.ref a6) := c114.other W125 (Or.inr (slot_ne (Or.inr (hw _ (List.mem_of_getElem? (i := 40) rfl))) (Or.inr (hw _ (List.mem_of_getElem? (i := 44) rfl))) (by decide) (t := (.object "java/lang/String")) (t' := (.object "java/lang/String")) (by decide) (by decide)))
  have c133 : Fld Z h125 a1 "com/example/titlepoint/titlepoint/FieldDefinition" "work" "Ljava/lang/String;" (.ref a7) := c115.other W125 (Or.inr (slot_ne (Or.inr (hw _ (List.mem_of_getElem? (i := 42) rfl))) (Or.inr (hw _ (List.mem_of_getElem? (i := 44) rfl))) (by decide) (t := (.object "java/lang/String")) (t' := (.object "java/lang/String")) (by decide) (by decide)))
  have c134 : Fld Z h125 a1 "com/example/titlepoint/titlepoint/FieldDefinition" "expression" "Ljava/lang/String;" (.ref a8) := c116.same W125
  have c135 : Fld Z h125 a1 "com/example/titlepoint/titlepoint/FieldDefinition" "others" "Ljava/lang/String;" .null := c117.other W125 (Or.inr (slot_ne (Or.inr (hw _ (List.mem_of_getElem? (i := 46) rfl))) (Or.inr (hw _ (List.mem_of_getElem? (i := 44) rfl))) (by decide) (t := (.object "java/lang/String")) (t' := (.object "java/lang/String")) (by decide) (by decide)))
  have c136 : Fld Z h125 a1 "com/example/titlepoint/titlepoint/FieldDefinition" "repeatable" "Ljava/lang/String;" .null := c118.other W125 (Or.inr (slot_ne (Or.inr (hw _ (List.mem_of_getElem? (i := 48) rfl))) (Or.inr (hw _ (List.mem_of_getElem? (i := 44) rfl))) (by decide) (t := (.object "java/lang/String")) (t' := (.object "java/lang/String")) (by decide) (by decide)))
  have c137 : Fld Z h125 a1 "com/example/titlepoint/titlepoint/FieldDefinition" "required" "Ljava/lang/String;" .null := c119.other W125 (Or.inr (slot_ne (Or.inr (hw _ (List.mem_of_getElem? (i := 50) rfl))) (Or.inr (hw _ (List.mem_of_getElem? (i := 44) rfl))) (by decide) (t := (.object "java/lang/String")) (t' := (.object "java/lang/String")) (by decide) (by decide)))
  have c138 : Fld Z h125 a1 "com/example/titlepoint/titlepoint/FieldDefinition" "subfieldLabels" "Ljava/util/Map;" .null := c120.other W125 (Or.inr (slot_ne (Or.inr (hw _ (List.mem_of_getElem? (i := 52) rfl))) (Or.inr (hw _ (List.mem_of_getElem? (i := 44) rfl))) (by decide) (t := (.object "java/util/Map")) (t' := (.object "java/lang/String")) (by decide) (by decide)))
  have c139 : Fld Z h125 a1 "com/example/titlepoint/titlepoint/FieldDefinition" "entity" "Ljava/lang/String;" .null := c121.other W125 (Or.inr (slot_ne (Or.inr (hw _ (List.mem_of_getElem? (i := 54) rfl))) (Or.inr (hw _ (List.mem_of_getElem? (i := 44) rfl))) (by decide) (t := (.object "java/lang/String")) (t' := (.object "java/lang/String")) (by decide) (by decide)))
  have c140 : Fld Z h125 a1 "com/example/titlepoint/titlepoint/FieldDefinition" "embeds" "Ljava/lang/String;" .null := c122.other W125 (Or.inr (slot_ne (Or.inr (hw _ (List.mem_of_getElem? (i := 56) rfl))) (Or.inr (hw _ (List.mem_of_getElem? (i := 44) rfl))) (by decide) (t := (.object "java/lang/String")) (t' := (.object "java/lang/String")) (by decide) (by decide)))
  have c141 : Fld Z h125 a1 "com/example/titlepoint/titlepoint/FieldDefinition" "standardIndicator2" "Ljava/lang/String;" .null := c123.other W125 (Or.inr (slot_ne (Or.inr (hw _ (List.mem_of_getElem? (i := 58) rfl))) (Or.inr (hw _ (List.mem_of_getElem? (i := 44) rfl))) (by decide) (t := (.object "java/lang/String")) (t' := (.object "java/lang/String")) (by decide) (by decide)))
  have c142 : Keep h0 h125 [a1] := c124.wr W125 (Or.inl (List.mem_of_getElem? (i := 0) rfl))
  obtain ⟨T143, h143, X143, e143, W143, st143⟩ := putF X125 hx hZ hown (host := "") (Or.inl (hw _ (List.mem_of_getElem? (i := 45) rfl))) Via.refl e125 c135 c127 (Or.inr ⟨(hw _ (List.mem_of_getElem? (i := 46) rfl)), rfl, hnm⟩) (hw _ (List.mem_of_getElem? (i := 14) rfl)) (ty := (.object "java/lang/String")) (by decide) rfl rfl (g := (mkF m 46 #[.val (.ref a1), .val (.ref a2), .val (.ref a3), .val (.int p4), .val (.ref a5), .val (.ref a6), .val (.ref a7), .val (.ref a8), .val (.ref a9), .val (.ref a10), .val (.ref a11), .val .null, .val (.ref a13), .val (.ref a14), .val (.ref a15)] [(.ref a9), (.ref a1)])) rfl rfl (hb hby d2_46)
  have N143 := Fr.snoc X143 N125 g_a1
  have c144 : n0 ≤ h143.size := Nat.le_trans c126 (Keep.of_wr W143).1
  have c145 : Exa Z h143 a1 "com/example/titlepoint/titlepoint/FieldDefinition" := c127.wr W143
  have c146 : Fld Z h143 a1 "com/example/titlepoint/titlepoint/FieldDefinition" "tag" "Ljava/lang/String;" (.ref a2) := c128.other W143 (Or.inr (slot_ne (Or.inr (hw _ (List.mem_of_getElem? (i := 32) rfl))) (Or.inr (hw _ (List.mem_of_getElem? (i := 46) rfl))) (by decide) (t := (.object "java/lang/String")) (t' := (.object "java/lang/String")) (by decide) (by decide)))
  have c147 : Fld Z h143 a1 "com/example/titlepoint/titlepoint/FieldDefinition" "label" "Ljava/lang/String;" (.ref a3) := c129.other W143 (Or.inr (slot_ne (Or.inr (hw _ (List.mem_of_getElem? (i := 34) rfl))) (Or.inr (hw _ (List.mem_of_getElem? (i := 46) rfl))) (by decide) (t := (.object "java/lang/String")) (t' := (.object "java/lang/String")) (by decide) (by decide)))
  have c148 : Fld Z h143 a1 "com/example/titlepoint/titlepoint/FieldDefinition" "fieldRepeatable" "Z" (.int (nar .boolean p4)) := c130.other W143 (Or.inr (slot_ne (Or.inr (hw _ (List.mem_of_getElem? (i := 36) rfl))) (Or.inr (hw _ (List.mem_of_getElem? (i := 46) rfl))) (by decide) (t := .boolean) (t' := (.object "java/lang/String")) (by decide) (by decide)))
  have c149 : Fld Z h143 a1 "com/example/titlepoint/titlepoint/FieldDefinition" "indicator1" "Ljava/lang/String;" (.ref a5) := c131.other W143 (Or.inr (slot_ne (Or.inr (hw _ (List.mem_of_getElem? (i := 38) rfl))) (Or.inr (hw _ (List.mem_of_getElem? (i := 46) rfl))) (by decide) (t := (.object "java/lang/String")) (t' := (.object "java/lang/String")) (by decide) (by decide)))
  have c150 : Fld Z h143 a1 "com/example/titlepoint/titlepoint/FieldDefinition" "indicator2" "Ljava/lang/String;" (.ref a6) := c132.other W143 (Or.inr (slot_ne (Or.inr (hw _ (List.mem_of_getElem? (i := 40) rfl))) (Or.inr (hw _ (List.mem_of_getElem? (i := 46) rfl))) (by decide) (t := (.object "java/lang/String")) (t' := (.object "java/lang/String")) (by decide) (by decide)))
  have c151 : Fld Z h143 a1 "com/example/titlepoint/titlepoint/FieldDefinition" "work" "Ljava/lang/String;" (.ref a7) := c133.other W143 (Or.inr (slot_ne (Or.inr (hw _ (List.mem_of_getElem? (i := 42) rfl))) (Or.inr (hw _ (List.mem_of_getElem? (i := 46) rfl))) (by decide) (t := (.object "java/lang/String")) (t' := (.object "java/lang/String")) (by decide) (by decide)))
  have c152 : Fld Z h143 a1 "com/example/titlepoint/titlepoint/FieldDefinition" "expression" "Ljava/lang/String;" (.ref a8) := c134.other W143 (Or.inr (slot_ne (Or.inr (hw _ (List.mem_of_getElem? (i := 44) rfl))) (Or.inr (hw _ (List.mem_of_getElem? (i := 46) rfl))) (by decide) (t := (.object "java/lang/String")) (t' := (.object "java/lang/String")) (by decide) (by decide)))
  have c153 : Fld Z h143 a1 "com/example/titlepoint/titlepoint/FieldDefinition" "others" "Ljava/lang/String;" (.ref a9) := c135.same W143
  have c154 : Fld Z h143 a1 "com/example/titlepoint/titlepoint/FieldDefinition" "repeatable" "Ljava/lang/String;" .null := c136.other W143 (Or.inr (slot_ne (Or.inr (hw _ (List.mem_of_getElem? (i := 48) rfl))) (Or.inr (hw _ (List.mem_of_getElem? (i := 46) rfl))) (by decide) (t := (.object "java/lang/String")) (t' := (.object "java/lang/String")) (by decide) (by decide)))
  have c155 : Fld Z h143 a1 "com/example/titlepoint/titlepoint/FieldDefinition" "required" "Ljava/lang/String;" .null := c137.other W143 (Or.inr (slot_ne (Or.inr (hw _ (List.mem_of_getElem? (i := 50) rfl))) (Or.inr (hw _ (List.mem_of_getElem? (i := 46) rfl))) (by decide) (t := (.object "java/lang/String")) (t' := (.object "java/lang/String")) (by decide) (by decide)))
  have c156 : Fld Z h143 a1 "com/example/titlepoint/titlepoint/FieldDefinition" "subfieldLabels" "Ljava/util/Map;" .null := c138.other W143 (Or.inr (slot_ne (Or.inr (hw _ (List.mem_of_getElem? (i := 52) rfl))) (Or.inr (hw _ (List.mem_of_getElem? (i := 46) rfl))) (by decide) (t := (.object "java/util/Map")) (t' := (.object "java/lang/String")) (by decide) (by decide)))
  have c157 : Fld Z h143 a1 "com/example/titlepoint/titlepoint/FieldDefinition" "entity" "Ljava/lang/String;" .null := c139.other W143 (Or.inr (slot_ne (Or.inr (hw _ (List.mem_of_getElem? (i := 54) rfl))) (Or.inr (hw _ (List.mem_of_getElem? (i := 46) rfl))) (by decide) (t := (.object "java/lang/String")) (t' := (.object "java/lang/String")) (by decide) (by decide)))
  have c158 : Fld Z h143 a1 "com/example/titlepoint/titlepoint/FieldDefinition" "embeds" "Ljava/lang/String;" .null := c140.other W143 (Or.inr (slot_ne (Or.inr (hw _ (List.mem_of_getElem? (i := 56) rfl))) (Or.inr (hw _ (List.mem_of_getElem? (i := 46) rfl))) (by decide) (t := (.object "java/lang/String")) (t' := (.object "java/lang/String")) (by decide) (by decide)))
  have c159 : Fld Z h143 a1 "com/example/titlepoint/titlepoint/FieldDefinition" "standardIndicator2" "Ljava/lang/String;" .null := c141.other W143 (Or.inr (slot_ne (Or.inr (hw _ (List.mem_of_getElem? (i := 58) rfl))) (Or.inr (hw _ (List.mem_of_getElem? (i := 46) rfl))) (by decide) (t := (.object "java/lang/String")) (t' := (.object "java/lang/String")) (by decide) (by decide)))
  have c160 : Keep h0 h143 [a1] := c142.wr W143 (Or.inl (List.mem_of_getElem? (i := 0) rfl))
  obtain ⟨T161, h161, X161, e161, W161, st161⟩ := putF X143 hx hZ hown (host := "") (Or.inl (hw _ (List.mem_of_getElem? (i := 47) rfl))) Via.refl e143 c154 c145 (Or.inr ⟨(hw _ (List.mem_of_getElem? (i := 48) rfl)), rfl, hnm⟩) (hw _ (List.mem_of_getElem? (i := 14) rfl)) (ty := (.object "java/lang/String")) (by decide) rfl rfl (g := (mkF m 52 #[.val (.ref a1), .val (.ref a2), .val (.ref a3), .val (.int p4), .val (.ref a5), .val (.ref a6), .val (.ref a7), .val (.ref a8), .val (.ref a9), .val (.ref a10), .val (.ref a11), .val .null, .val (.ref a13), .val (.ref a14), .val (.ref a15)] [(.ref a10), (.ref a1)])) rfl rfl (hb hby d2_52)
  have N161 := Fr.snoc X161 N143 g_a1
  have c162 : n0 ≤ h161.size := Nat.le_trans c144 (Keep.of_wr W161).1
  have c163 : Exa Z h161 a1 "com/example/titlepoint/titlepoint/FieldDefinition" := c145.wr W161
  have c164 : Fld Z h161 a1 "com/example/titlepoint/titlepoint/FieldDefinition" "tag" "Ljava/lang/String;" (.ref a2) := c146.other W161 (Or.inr (slot_ne (Or.inr (hw _ (List.mem_of_getElem? (i := 32) rfl))) (Or.inr (hw _ (List.mem_of_getElem? (i := 48) rfl))) (by decide) (t := (.object "java/lang/String")) (t' := (.object "java/lang/String")) (by decide) (by decide)))
  have c165 : Fld Z h161 a1 "com/example/titlepoint/titlepoint/FieldDefinition" "label" "Ljava/lang/String;" (.ref a3) := c147.other W161 (Or.inr (slot_ne (Or.inr (hw _ (List.mem_of_getElem? (i := 34) rfl))) (Or.inr (hw _ (List.mem_of_getElem? (i := 48) rfl))) (by decide) (t := (.object "java/lang/String")) (t' := (.object "java/lang/String")) (by decide) (by decide)))
  have c166 : Fld Z h161 a1 "com/example/titlepoint/titlepoint/FieldDefinition" "fieldRepeatable" "Z" (.int (nar .boolean p4)) := c148.other W161 (Or.inr (slot_ne (Or.inr (hw _ (List.mem_of_getElem? (i := 36) rfl))) (Or.inr (hw _ (List.mem_of_getElem? (i := 48) rfl))) (by decide) (t := .boolean) (t' := (.object "java/lang/String")) (by decide) (by decide)))
  have c167 : Fld Z h161 a1 "com/example/titlepoint/titlepoint/FieldDefinition" "indicator1" "Ljava/lang/String;" (.ref a5) := c149.other W161 (Or.inr (slot_ne (Or.inr (hw _ (List.mem_of_getElem? (i := 38) rfl))) (Or.inr (hw _ (List.mem_of_getElem? (i := 48) rfl))) (by decide) (t := (.object "java/lang/String")) (t' := (.object "java/lang/String")) (by decide) (by decide)))
  have c168 : Fld Z h161 a1 "com/example/titlepoint/titlepoint/FieldDefinition" "indicator2" "Ljava/lang/String;" (.ref a6) := c150.other W161 (Or.inr (slot_ne (Or.inr (hw _ (List.mem_of_getElem? (i := 40) rfl))) (Or.inr (hw _ (List.mem_of_getElem? (i := 48) rfl))) (by decide) (t := (.object "java/lang/String")) (t' := (.object "java/lang/String")) (by decide) (by decide)))
  have c169 : Fld Z h161 a1 "com/example/titlepoint/titlepoint/FieldDefinition" "work" "Ljava/lang/String;" (.ref a7) := c151.other W161 (Or.inr (slot_ne (Or.inr (hw _ (List.mem_of_getElem? (i := 42) rfl))) (Or.inr (hw _ (List.mem_of_getElem? (i := 48) rfl))) (by decide) (t := (.object "java/lang/String")) (t' := (.object "java/lang/String")) (by decide) (by decide)))
  have c170 : Fld Z h161 a1 "com/example/titlepoint/titlepoint/FieldDefinition" "expression" "Ljava/lang/String;" (.ref a8) := c152.other W161 (Or.inr (slot_ne (Or.inr (hw _ (List.mem_of_getElem? (i := 44) rfl))) (Or.inr (hw _ (List.mem_of_getElem? (i := 48) rfl))) (by decide) (t := (.object "java/lang/String")) (t' := (.object "java/lang/String")) (by decide) (by decide)))
  have c171 : Fld Z h161 a1 "com/example/titlepoint/titlepoint/FieldDefinition" "others" "Ljava/lang/String;" (.ref a9) := c153.other W161 (Or.inr (slot_ne (Or.inr (hw _ (List.mem_of_getElem? (i := 46) rfl))) (Or.inr (hw _ (List.mem_of_getElem? (i := 48) rfl))) (by decide) (t := (.object "java/lang/String")) (t' := (.object "java/lang/String")) (by decide) (by decide)))
  have c172 : Fld Z h161 a1 "com/example/titlepoint/titlepoint/FieldDefinition" "repeatable" "Ljava/lang/String;" (.ref a10) := c154.same W161
  have c173 : Fld Z h161 a1 "com/example/titlepoint/titlepoint/FieldDefinition" "required" "Ljava/lang/String;" .null := c155.other W161 (Or.inr (slot_ne (Or.inr (hw _ (List.mem_of_getElem? (i := 50) rfl))) (Or.inr (hw _ (List.mem_of_getElem? (i := 48) rfl))) (by decide) (t := (.object "java/lang/String")) (t' := (.object "java/lang/String")) (by decide) (by decide)))
  have c174 : Fld Z h161 a1 "com/example/titlepoint/titlepoint/FieldDefinition" "subfieldLabels" "Ljava/util/Map;" .null := c156.other W161 (Or.inr (slot_ne (Or.inr (hw _ (List.mem_of_getElem? (i := 52) rfl))) (Or.inr (hw _ (List.mem_of_getElem? (i := 48) rfl))) (by decide) (t := (.object "java/util/Map")) (t' := (.object "java/lang/String")) (by decide) (by decide)))
  have c175 : Fld Z h161 a1 "com/example/titlepoint/titlepoint/FieldDefinition" "entity" "Ljava/lang/String;" .null := c157.other W161 (Or.inr (slot_ne (Or.inr (hw _ (List.mem_of_getElem? (i := 54) rfl))) (Or.inr (hw _ (List.mem_of_getElem? (i := 48) rfl))) (by decide) (t := (.object "java/lang/String")) (t' := (.object "java/lang/String")) (by decide) (by decide)))
  have c176 : Fld Z h161 a1 "com/example/titlepoint/titlepoint/FieldDefinition" "embeds" "Ljava/lang/String;" .null := c158.other W161 (Or.inr (slot_ne (Or.inr (hw _ (List.mem_of_getElem? (i := 56) rfl))) (Or.inr (hw _ (List.mem_of_getElem? (i := 48) rfl))) (by decide) (t := (.object "java/lang/String")) (t' := (.object "java/lang/String")) (by decide) (by decide)))
  have c177 : Fld Z h161 a1 "com/example/titlepoint/titlepoint/FieldDefinition" "standardIndicator2" "Ljava/lang/String;" .null := c159.other W161 (Or.inr (slot_ne (Or.inr (hw _ (List.mem_of_getElem? (i := 58) rfl))) (Or.inr (hw _ (List.mem_of_getElem? (i := 48) rfl))) (by decide) (t := (.object "java/lang/String")) (t' := (.object "java/lang/String")) (by decide) (by decide)))
  have c178 : Keep h0 h161 [a1] := c160.wr W161 (Or.inl (List.mem_of_getElem? (i := 0) rfl))
  obtain ⟨T179, h179, X179, e179, W179, st179⟩ := putF X161 hx hZ hown (host := "") (Or.inl (hw _ (List.mem_of_getElem? (i := 49) rfl))) Via.refl e161 c173 c163 (Or.inr ⟨(hw _ (List.mem_of_getElem? (i := 50) rfl)), rfl, hnm⟩) (hw _ (List.mem_of_getElem? (i := 14) rfl)) (ty := (.object "java/lang/String")) (by decide) rfl rfl (g := (mkF m 58 #[.val (.ref a1), .val (.ref a2), .val (.ref a3), .val (.int p4), .val (.ref a5), .val (.ref a6), .val (.ref a7), .val (.ref a8), .val (.ref a9), .val (.ref a10), .val (.ref a11), .val .null, .val (.ref a13), .val (.ref a14), .val (.ref a15)] [(.ref a11), (.ref a1)])) rfl rfl (hb hby d2_58)
  have N179 := Fr.snoc X179 N161 g_a1
  have c180 : n0 ≤ h179.size := Nat.le_trans c162 (Keep.of_wr W179).1
  have c181 : Exa Z h179 a1 "com/example/titlepoint/titlepoint/FieldDefinition" := c163.wr W179
  have c182 : Fld Z h179 a1 "com/example/titlepoint/titlepoint/FieldDefinition" "tag" "Ljava/lang/String;" (.ref a2) := c164.other W179 (Or.inr (slot_ne (Or.inr (hw _ (List.mem_of_getElem? (i := 32) rfl))) (Or.inr (hw _ (List.mem_of_getElem? (i := 50) rfl))) (by decide) (t := (.object "java/lang/String")) (t' := (.object "java/lang/String")) (by decide) (by decide)))
  have c183 : Fld Z h179 a1 "com/example/titlepoint/titlepoint/FieldDefinition" "label" "Ljava/lang/String;" (.ref a3) := c165.other W179 (Or.inr (slot_ne (Or.inr (hw _ (List.mem_of_getElem? (i := 34) rfl))) (Or.inr (hw _ (List.mem_of_getElem? (i := 50) rfl))) (by decide) (t := (.object "java/lang/String")) (t' := (.object "java/lang/String")) (by decide) (by decide)))
  have c184 : Fld Z h179 a1 "com/example/titlepoint/titlepoint/FieldDefinition" "fieldRepeatable" "Z" (.int (nar .boolean p4)) := c166.other W179 (Or.inr (slot_ne (Or.inr (hw _ (List.mem_of_getElem? (i := 36) rfl))) (Or.inr (hw _ (List.mem_of_getElem? (i := 50) rfl))) (by decide) (t := .boolean) (t' := (.object "java/lang/String")) (by decide) (by decide)))
  have c185 : Fld Z h179 a1 "com/example/titlepoint/titlepoint/FieldDefinition" "indicator1" "Ljava/lang/String;" (.ref a5) := c167.other W179 (Or.inr (slot_ne (Or.inr (hw _ (List.mem_of_getElem? (i := 38) rfl))) (Or.inr (hw _ (List.mem_of_getElem? (i := 50) rfl))) (by decide) (t := (.object "java/lang/String")) (t' := (.object "java/lang/String")) (by decide) (by decide)))
  have c186 : Fld Z h179 a1 "com/example/titlepoint/titlepoint/FieldDefinition" "indicator2" "Ljava/lang/String;" (.ref a6) := c168.other W179 (Or.inr (slot_ne (Or.inr (hw _ (List.mem_of_getElem? (i := 40) rfl))) (Or.inr (hw _ (List.mem_of_getElem? (i := 50) rfl))) (by decide) (t := (.object "java/lang/String")) (t' := (.object "java/lang/String")) (by decide) (by decide)))
  have c187 : Fld Z h179 a1 "com/example/titlepoint/titlepoint/FieldDefinition" "work" "Ljava/lang/String;" (.ref a7) := c169.other W179 (Or.inr (slot_ne (Or.inr (hw _ (List.mem_of_getElem? (i := 42) rfl))) (Or.inr (hw _ (List.mem_of_getElem? (i := 50) rfl))) (by decide) (t := (.object "java/lang/String")) (t' := (.object "java/lang/String")) (by decide) (by decide)))
  have c188 : Fld Z h179 a1 "com/example/titlepoint/titlepoint/FieldDefinition" "expression" "Ljava/lang/String;" (.ref a8) := c170.other W179 (Or.inr (slot_ne (Or.inr (hw _ (List.mem_of_getElem? (i := 44) rfl))) (Or.inr (hw _ (List.mem_of_getElem? (i := 50) rfl))) (by decide) (t := (.object "java/lang/String")) (t' := (.object "java/lang/String")) (by decide) (by decide)))
  have c189 : Fld Z h179 a1 "com/example/titlepoint/titlepoint/FieldDefinition" "others" "Ljava/lang/String;" (.ref a9) := c171.other W179 (Or.inr (slot_ne (Or.inr (hw _ (List.mem_of_getElem? (i := 46) rfl))) (Or.inr (hw _ (List.mem_of_getElem? (i := 50) rfl))) (by decide) (t := (.object "java/lang/String")) (t' := (.object "java/lang/String")) (by decide) (by decide)))
  have c190 : Fld Z h179 a1 "com/example/titlepoint/titlepoint/FieldDefinition" "repeatable" "Ljava/lang/String;" (.ref a10) := c172.other W179 (Or.inr (slot_ne (Or.inr (hw _ (List.mem_of_getElem? (i := 48) rfl))) (Or.inr (hw _ (List.mem_of_getElem? (i := 50) rfl))) (by decide) (t := (.object "java/lang/String")) (t' := (.object "java/lang/String")) (by decide) (by decide)))
  have c191 : Fld Z h179 a1 "com/example/titlepoint/titlepoint/FieldDefinition" "required" "Ljava/lang/String;" (.ref a11) := c173.same W179
  have c192 : Fld Z h179 a1 "com/example/titlepoint/titlepoint/FieldDefinition" "subfieldLabels" "Ljava/util/Map;" .null := c174.other W179 (Or.inr (slot_ne (Or.inr (hw _ (List.mem_of_getElem? (i := 52) rfl))) (Or.inr (hw _ (List.mem_of_getElem? (i := 50) rfl))) (by decide) (t := (.object "java/util/Map")) (t' := (.object "java/lang/String")) (by decide) (by decide)))
  have c193 : Fld Z h179 a1 "com/example/titlepoint/titlepoint/FieldDefinition" "entity" "Ljava/lang/String;" .null := c175.other W179 (Or.inr (slot_ne (Or.inr (hw _ (List.mem_of_getElem? (i := 54) rfl))) (Or.inr (hw _ (List.mem_of_getElem? (i := 50) rfl))) (by decide) (t := (.object "java/lang/String")) (t' := (.object "java/lang/String")) (by decide) (by decide)))
  have c194 : Fld Z h179 a1 "com/example/titlepoint/titlepoint/FieldDefinition" "embeds" "Ljava/lang/String;" .null := c176.other W179 (Or.inr (slot_ne (Or.inr (hw _ (List.mem_of_getElem? (i := 56) rfl))) (Or.inr (hw _ (List.mem_of_getElem? (i := 50) rfl))) (by decide) (t := (.object "java/lang/String")) (t' := (.object "java/lang/String")) (by decide) (by decide)))
  have c195 : Fld Z h179 a1 "com/example/titlepoint/titlepoint/FieldDefinition" "standardIndicator2" "Ljava/lang/String;" .null := c177.other W179 (Or.inr (slot_ne (Or.inr (hw _ (List.mem_of_getElem? (i := 58) rfl))) (Or.inr (hw _ (List.mem_of_getElem? (i := 50) rfl))) (by decide) (t := (.object "java/lang/String")) (t' := (.object "java/lang/String")) (by decide) (by decide)))
  have c196 : Keep h0 h179 [a1] := c178.wr W179 (Or.inl (List.mem_of_getElem? (i := 0) rfl))
  obtain ⟨T197, h197, X197, e197, W197, st197⟩ := putF X179 hx hZ hown (host := "") (Or.inl (hw _ (List.mem_of_getElem? (i := 51) rfl))) Via.refl e179 c192 c181 (Or.inr ⟨(hw _ (List.mem_of_getElem? (i := 52) rfl)), rfl, hnm⟩) (hw _ (List.mem_of_getElem? (i := 14) rfl)) (ty := (.object "java/util/Map")) (by decide) rfl rfl (g := (mkF m 64 #[.val (.ref a1), .val (.ref a2), .val (.ref a3), .val (.int p4), .val (.ref a5), .val (.ref a6), .val (.ref a7), .val (.ref a8), .val (.ref a9), .val (.ref a10), .val (.ref a11), .val .null, .val (.ref a13), .val (.ref a14), .val (.ref a15)] [.null, (.ref a1)])) rfl rfl (hb hby d2_64)
  have N197 := Fr.snoc X197 N179 g_a1
  have c198 : n0 ≤ h197.size := Nat.le_trans c180 (Keep.of_wr W197).1
  have c199 : Exa Z h197 a1 "com/example/titlepoint/titlepoint/FieldDefinition" := c181.wr W197
  have c200 : Fld Z h197 a1 "com/example/titlepoint/titlepoint/FieldDefinition" "tag" "Ljava/lang/String;" (.ref a2) := c182.other W197 (Or.inr (slot_ne (Or.inr (hw _ (List.mem_of_getElem? (i := 32) rfl))) (Or.inr (hw _ (List.mem_of_getElem? (i := 52) rfl))) (by decide) (t := (.object "java/lang/String")) (t' := (.object "java/util/Map")) (by decide) (by decide)))
  have c201 : Fld Z h197 a1 "com/example/titlepoint/titlepoint/FieldDefinition" "label" "Ljava/lang/String;" (.ref a3) := c183.other W197 (Or.inr (slot_ne (Or.inr (hw _ (List.mem_of_getElem? (i := 34) rfl))) (Or.inr (hw _ (List.mem_of_getElem? (i := 52) rfl))) (by decide) (t := (.object "java/lang/String")) (t' := (.object "java/util/Map")) (by decide) (by decide)))
  have c202 : Fld Z h197 a1 "com/example/titlepoint/titlepoint/FieldDefinition" "fieldRepeatable" "Z" (.int (nar .boolean p4)) := c184.other W197 (Or.inr (slot_ne (Or.inr (hw _ (List.mem_of_getElem? (i := 36) rfl))) (Or.inr (hw _ (List.mem_of_getElem? (i := 52) rfl))) (by decide) (t := .boolean) (t' := (.object "java/util/Map")) (by decide) (by decide)))
  have c203 : Fld Z h197 a1 "com/example/titlepoint/titlepoint/FieldDefinition" "indicator1" "Ljava/lang/String;" (.ref a5) := c185.other W197 (Or.inr (slot_ne (Or.inr (hw _ (List.mem_of_getElem? (i := 38) rfl))) (Or.inr (hw _ (List.mem_of_getElem? (i := 52) rfl))) (by decide) (t := (.object "java/lang/String")) (t' := (.object "java/util/Map")) (by decide) (by decide)))
  have c204 : Fld Z h197 a1 "com/example/titlepoint/titlepoint/FieldDefinition" "indicator2" "Ljava/lang/String;" (.ref a6) := c186.other W197 (Or.inr (slot_ne (Or.inr (hw _ (List.mem_of_getElem? (i := 40) rfl))) (Or.inr (hw _ (List.mem_of_getElem? (i := 52) rfl))) (by decide) (t := (.object "java/lang/String")) (t' := (.object "java/util/Map")) (by decide) (by decide)))
  have c205 : Fld Z h197 a1 "com/example/titlepoint/titlepoint/FieldDefinition" "work" "Ljava/lang/String;" (.ref a7) := c187.other W197 (Or.inr (slot_ne (Or.inr (hw _ (List.mem_of_getElem? (i := 42) rfl))) (Or.inr (hw _ (List.mem_of_getElem? (i := 52) rfl))) (by decide) (t := (.object "java/lang/String")) (t' := (.object "java/util/Map")) (by decide) (by decide)))
  have c206 : Fld Z h197 a1 "com/example/titlepoint/titlepoint/FieldDefinition" "expression" "Ljava/lang/String;" (.ref a8) := c188.other W197 (Or.inr (slot_ne (Or.inr (hw _ (List.mem_of_getElem? (i := 44) rfl))) (Or.inr (hw _ (List.mem_of_getElem? (i := 52) rfl))) (by decide) (t := (.object "java/lang/String")) (t' := (.object "java/util/Map")) (by decide) (by decide)))
  have c207 : Fld Z h197 a1 "com/example/titlepoint/titlepoint/FieldDefinition" "others" "Ljava/lang/String;" (.ref a9) := c189.other W197 (Or.inr (slot_ne (Or.inr (hw _ (List.mem_of_getElem? (i := 46) rfl))) (Or.inr (hw _ (List.mem_of_getElem? (i := 52) rfl))) (by decide) (t := (.object "java/lang/String")) (t' := (.object "java/util/Map")) (by decide) (by decide)))
  have c208 : Fld Z h197 a1 "com/example/titlepoint/titlepoint/FieldDefinition" "repeatable" "Ljava/lang/String;" (.ref a10) := c190.other W197 (Or.inr (slot_ne (Or.inr (hw _ (List.mem_of_getElem? (i := 48) rfl))) (Or.inr (hw _ (List.mem_of_getElem? (i := 52) rfl))) (by decide) (t := (.object "java/lang/String")) (t' := (.object "java/util/Map")) (by decide) (by decide)))
  have c209 : Fld Z h197 a1 "com/example/titlepoint/titlepoint/FieldDefinition" "required" "Ljava/lang/String;" (.ref a11) := c191.other W197 (Or.inr (slot_ne (Or.inr (hw _ (List.mem_of_getElem? (i := 50) rfl))) (Or.inr (hw _ (List.mem_of_getElem? (i := 52) rfl))) (by decide) (t := (.object "java/lang/String")) (t' := (.object "java/util/Map")) (by decide) (by decide)))
  have c210 : Fld Z h197 a1 "com/example/titlepoint/titlepoint/FieldDefinition" "subfieldLabels" "Ljava/util/Map;" .null := c192.same W197
  have c211 : Fld Z h197 a1 "com/example/titlepoint/titlepoint/FieldDefinition" "entity" "Ljava/lang/String;" .null := c193.other W197 (Or.inr (slot_ne (Or.inr (hw _ (List.mem_of_getElem? (i := 54) rfl))) (Or.inr (hw _ (List.mem_of_getElem? (i := 52) rfl))) (by decide) (t := (.object "java/lang/String")) (t' := (.object "java/util/Map")) (by decide) (by decide)))
  have c212 : Fld Z h197 a1 "com/example/titlepoint/titlepoint/FieldDefinition" "embeds" "Ljava/lang/String;" .null := c194.other W197 (Or.inr (slot_ne (Or.inr (hw _ (List.mem_of_getElem? (i := 56) rfl))) (Or.inr (hw _ (List.mem_of_getElem? (i := 52) rfl))) (by decide) (t := (.object "java/lang/String")) (t' := (.object "java/util/Map")) (by decide) (by decide)))
  have c213 : Fld Z h197 a1 "com/example/titlepoint/titlepoint/FieldDefinition" "standardIndicator2" "Ljava/lang/String;" .null := c195.other W197 (Or.inr (slot_ne (Or.inr (hw _ (List.mem_of_getElem? (i := 58) rfl))) (Or.inr (hw _ (List.mem_of_getElem? (i := 52) rfl))) (by decide) (t := (.object "java/lang/String")) (t' := (.object "java/util/Map")) (by decide) (by decide)))
  have c214 : Keep h0 h197 [a1] := c196.wr W197 (Or.inl (List.mem_of_getElem? (i := 0) rfl))
  obtain ⟨T215, h215, X215, e215, W215, st215⟩ := putF X197 hx hZ hown (host := "") (Or.inl (hw _ (List.mem_of_getElem? (i := 53) rfl))) Via.refl e197 c211 c199 (Or.inr ⟨(hw _ (List.mem_of_getElem? (i := 54) rfl)), rfl, hnm⟩) (hw _ (List.mem_of_getElem? (i := 14) rfl)) (ty := (.object "java/lang/String")) (by decide) rfl rfl (g := (mkF m 70 #[.val (.ref a1), .val (.ref a2), .val (.ref a3), .val (.int p4), .val (.ref a5), .val (.ref a6), .val (.ref a7), .val (.ref a8), .val (.ref a9), .val (.ref a10), .val (.ref a11), .val .null, .val (.ref a13), .val (.ref a14), .val (.ref a15)] [(.ref a13), (.ref a1)])) rfl rfl (hb hby d2_70)
  have N215 := Fr.snoc X215 N197 g_a1
  have c216 : n0 ≤ h215.size := Nat.le_trans c198 (Keep.of_wr W215).1
  have c217 : Exa Z h215 a1 "com/example/titlepoint/titlepoint/FieldDefinition" := c199.wr W215
  have c218 : Fld Z h215 a1 "com/example/titlepoint/titlepoint/FieldDefinition" "tag" "Ljava/lang/String;" (.ref a2) := c200.other W215 (Or.inr (slot_ne (Or.inr (hw _ (List.mem_of_getElem? (i := 32) rfl))) (Or.inr (hw _ (List.mem_of_getElem? (i := 54) rfl))) (by decide) (t := (.object "java/lang/String")) (t' := (.object "java/lang/String")) (by decide) (by decide)))
  have c219 : Fld Z h215 a1 "com/example/titlepoint/titlepoint/FieldDefinition" "label" "Ljava/lang/String;" (.ref a3) := c201.other W215 (Or.inr (slot_ne (Or.inr (hw _ (List.mem_of_getElem? (i := 34) rfl))) (Or.inr (hw _ (List.mem_of_getElem? (i := 54) rfl))) (by decide) (t := (.object "java/lang/String")) (t' := (.object "java/lang/String")) (by decide) (by decide)))
  have c220 : Fld Z h215 a1 "com/example/titlepoint/titlepoint/FieldDefinition" "fieldRepeatable" "Z" (.int (nar .boolean p4)) := c202.other W215 (Or.inr (slot_ne (Or.inr (hw _ (List.mem_of_getElem? (i := 36) rfl))) (Or.inr (hw _ (List.mem_of_getElem? (i := 54) rfl))) (by decide) (t := .boolean) (t' := (.object "java/lang/String")) (by decide) (by decide)))
  have c221 : Fld Z h215 a1 "com/example/titlepoint/titlepoint/FieldDefinition" "indicator1" "Ljava/lang/String;" (.ref a5) := c203.other W215 (Or.inr (slot_ne (Or.inr (hw _ (List.mem_of_getElem? (i := 38) rfl))) (Or.inr (hw _ (List.mem_of_getElem? (i := 54) rfl))) (by decide) (t := (.object "java/lang/String")) (t' := (.object "java/lang/String")) (by decide) (by decide)))
  have c222 : Fld Z h215 a1 "com/example/titlepoint/titlepoint/FieldDefinition" "indicator2" "Ljava/lang/String;" (.ref a6) := c204.other W215 (Or.inr (slot_ne (Or.inr (hw _ (List.mem_of_getElem? (i := 40) rfl))) (Or.inr (hw _ (List.mem_of_getElem? (i := 54) rfl))) (by decide) (t := (.object "java/lang/String")) (t' := (.object "java/lang/String")) (by decide) (by decide)))
  have c223 : Fld Z h215 a1 "com/example/titlepoint/titlepoint/FieldDefinition" "work" "Ljava/lang/String;" (.ref a7) := c205.other W215 (Or.inr (slot_ne (Or.inr (hw _ (List.mem_of_getElem? (i := 42) rfl))) (Or.inr (hw _ (List.mem_of_getElem? (i := 54) rfl))) (by decide) (t := (.object "java/lang/String")) (t' := (.object "java/lang/String")) (by decide) (by decide)))
  have c224 : Fld Z h215 a1 "com/example/titlepoint/titlepoint/FieldDefinition" "expression" "Ljava/lang/String;" (.ref a8) := c206.other W215 (Or.inr (slot_ne (Or.inr (hw _ (List.mem_of_getElem? (i := 44) rfl))) (Or.inr (hw _ (List.mem_of_getElem? (i := 54) rfl))) (by decide) (t := (.object "java/lang/String")) (t' := (.object "java/lang/String")) (by decide) (by decide)))
  have c225 : Fld Z h215 a1 "com/example/titlepoint/titlepoint/FieldDefinition" "others" "Ljava/lang/String;" (.ref a9) := c207.other W215 (Or.inr (slot_ne (Or.inr (hw _ (List.mem_of_getElem? (i := 46) rfl))) (Or.inr (hw _ (List.mem_of_getElem? (i := 54) rfl))) (by decide) (t := (.object "java/lang/String")) (t' := (.object "java/lang/String")) (by decide) (by decide)))
  have c226 : Fld Z h215 a1 "com/example/titlepoint/titlepoint/FieldDefinition" "repeatable" "Ljava/lang/String;" (.ref a10) := c208.other W215 (Or.inr (slot_ne (Or.inr (hw _ (List.mem_of_getElem? (i := 48) rfl))) (Or.inr (hw _ (List.mem_of_getElem? (i := 54) rfl))) (by decide) (t := (.object "java/lang/String")) (t' := (.object "java/lang/String")) (by decide) (by decide)))
  have c227 : Fld Z h215 a1 "com/example/titlepoint/titlepoint/FieldDefinition" "required" "Ljava/lang/String;" (.ref a11) := c209.other W215 (Or.inr (slot_ne (Or.inr (hw _ (List.mem_of_getElem? (i := 50) rfl))) (Or.inr (hw _ (List.mem_of_getElem? (i := 54) rfl))) (by decide) (t := (.object "java/lang/String")) (t' := (.object "java/lang/String")) (by decide) (by decide)))
  have c228 : Fld Z h215 a1 "com/example/titlepoint/titlepoint/FieldDefinition" "subfieldLabels" "Ljava/util/Map;" .null := c210.other W215 (Or.inr (slot_ne (Or.inr (hw _ (List.mem_of_getElem? (i := 52) rfl))) (Or.inr (hw _ (List.mem_of_getElem? (i := 54) rfl))) (by decide) (t := (.object "java/util/Map")) (t' := (.object "java/lang/String")) (by decide) (by decide)))
  have c229 : Fld Z h215 a1 "com/example/titlepoint/titlepoint/FieldDefinition" "entity" "Ljava/lang/String;" (.ref a13) := c211.same W215
  have c230 : Fld Z h215 a1 "com/example/titlepoint/titlepoint/FieldDefinition" "embeds" "Ljava/lang/String;" .null := c212.other W215 (Or.inr (slot_ne (Or.inr (hw _ (List.mem_of_getElem? (i := 56) rfl))) (Or.inr (hw _ (List.mem_of_getElem? (i := 54) rfl))) (by decide) (t := (.object "java/lang/String")) (t' := (.object "java/lang/String")) (by decide) (by decide)))
  have c231 : Fld Z h215 a1 "com/example/titlepoint/titlepoint/FieldDefinition" "standardIndicator2" "Ljava/lang/String;" .null := c213.other W215 (Or.inr (slot_ne (Or.inr (hw _ (List.mem_of_getElem? (i := 58) rfl))) (Or.inr (hw _ (List.mem_of_getElem? (i := 54) rfl))) (by decide) (t := (.object "java/lang/String")) (t' := (.object "java/lang/String")) (by decide) (by decide)))
  have c232 : Keep h0 h215 [a1] := c214.wr W215 (Or.inl (List.mem_of_getElem? (i := 0) rfl))
  obtain ⟨T233, h233, X233, e233, W233, st233⟩ := putF X215 hx hZ hown (host := "") (Or.inl (hw _ (List.mem_of_getElem? (i := 55) rfl))) Via.refl e215 c230 c217 (Or.inr ⟨(hw _ (List.mem_of_getElem? (i := 56) rfl)), rfl, hnm⟩) (hw _ (List.mem_of_getElem? (i := 14) rfl)) (ty := (.object "java/lang/String")) (by decide) rfl rfl (g := (mkF m 76 #[.val (.ref a1), .val (.ref a2), .val (.ref a3), .val (.int p4), .val (.ref a5), .val (.ref a6), .val (.ref a7), .val (.ref a8), .val (.ref a9), .val (.ref a10), .val (.ref a11), .val .null, .val (.ref a13), .val (.ref a14), .val (.ref a15)] [(.ref a14), (.ref a1)])) rfl rfl (hb hby d2_76)
  have N233 := Fr.snoc X233 N215 g_a1
  have c234 : n0 ≤ h233.size := Nat.le_trans c216 (Keep.of_wr W233).1
  have c235 : Exa Z h233 a1 "com/example/titlepoint/titlepoint/FieldDefinition" := c217.wr W233
  have c236 : Fld Z h233 a1 "com/example/titlepoint/titlepoint/FieldDefinition" "tag" "Ljava/lang/String;" (.ref a2) := c218.other W233 (Or.inr (slot_ne (Or.inr (hw _ (List.mem_of_getElem? (i := 32) rfl))) (Or.inr (hw _ (List.mem_of_getElem? (i := 56) rfl))) (by decide) (t := (.object "java/lang/String")) (t' := (.object "java/lang/String")) (by decide) (by decide)))
  have c237 : Fld Z h233 a1 "com/example/titlepoint/titlepoint/FieldDefinition" "label" "Ljava/lang/String;" (.ref a3) := c219.other W233 (Or.inr (slot_ne (Or.inr (hw _ (List.mem_of_getElem? (i := 34) rfl))) (Or.inr (hw _ (List.mem_of_getElem? (i := 56) rfl))) (by decide) (t := (.object "java/lang/String")) (t' := (.object "java/lang/String")) (by decide) (by decide)))
  have c238 : Fld Z h233 a1 "com/example/titlepoint/titlepoint/FieldDefinition" "fieldRepeatable" "Z" (.int (nar .boolean p4)) := c220.other W233 (Or.inr (slot_ne (Or.inr (hw _ (List.mem_of_getElem? (i := 36) rfl))) (Or.inr (hw _ (List.mem_of_getElem? (i := 56) rfl))) (by decide) (t := .boolean) (t' := (.object "java/lang/String")) (by decide) (by decide)))
  have c239 : Fld Z h233 a1 "com/example/titlepoint/titlepoint/FieldDefinition" "indicator1" "Ljava/lang/String;" (.ref a5) := c221.other W233 (Or.inr (slot_ne (Or.inr (hw _ (List.mem_of_getElem? (i := 38) rfl))) (Or.inr (hw _ (List.mem_of_getElem? (i := 56) rfl))) (by decide) (t := (.object "java/lang/String")) (t' := (.object "java/lang/String")) (by decide) (by decide)))
  have c240 : Fld Z h233 a1 "com/example/titlepoint/titlepoint/FieldDefinition" "indicator2" "Ljava/lang/String;" (.ref a6) := c222.other W233 (Or.inr (slot_ne (Or.inr (hw _ (List.mem_of_getElem? (i := 40) rfl))) (Or.inr (hw _ (List.mem_of_getElem? (i := 56) rfl))) (by decide) (t := (.object "java/lang/String")) (t' := (.object "java/lang/String")) (by decide) (by decide)))
  have c241 : Fld Z h233 a1 "com/example/titlepoint/titlepoint/FieldDefinition" "work" "Ljava/lang/String;" (.ref a7) := c223.other W233 (Or.inr (slot_ne (Or.inr (hw _ (List.mem_of_getElem? (i := 42) rfl))) (Or.inr (hw _ (List.mem_of_getElem? (i := 56) rfl))) (by decide) (t := (.object "java/lang/String")) (t' := (.object "java/lang/String")) (by decide) (by decide)))
  have c242 : Fld Z h233 a1 "com/example/titlepoint/titlepoint/FieldDefinition" "expression" "Ljava/lang/String;" (.ref a8) := c224.other W233 (Or.inr (slot_ne (Or.inr (hw _ (List.mem_of_getElem? (i := 44) rfl))) (Or.inr (hw _ (List.mem_of_getElem? (i := 56) rfl))) (by decide) (t := (.object "java/lang/String")) (t' := (.object "java/lang/String")) (by decide) (by decide)))
  have c243 : Fld Z h233 a1 "com/example/titlepoint/titlepoint/FieldDefinition" "others" "Ljava/lang/String;" (.ref a9) := c225.other W233 (Or.inr (slot_ne (Or.inr (hw _ (List.mem_of_getElem? (i := 46) rfl))) (Or.inr (hw _ (List.mem_of_getElem? (i := 56) rfl))) (by decide) (t := (.object "java/lang/String")) (t' := (.object "java/lang/String")) (by decide) (by decide)))
  have c244 : Fld Z h233 a1 "com/example/titlepoint/titlepoint/FieldDefinition" "repeatable" "Ljava/lang/String;" (.ref a10) := c226.other W233 (Or.inr (slot_ne (Or.inr (hw _ (List.mem_of_getElem? (i := 48) rfl))) (Or.inr (hw _ (List.mem_of_getElem? (i := 56) rfl))) (by decide) (t := (.object "java/lang/String")) (t' := (.object "java/lang/String")) (by decide) (by decide)))
  have c245 : Fld Z h233 a1 "com/example/titlepoint/titlepoint/FieldDefinition" "required" "Ljava/lang/String;" (.ref a11) := c227.other W233 (Or.inr (slot_ne (Or.inr (hw _ (List.mem_of_getElem? (i := 50) rfl))) (Or.inr (hw _ (List.mem_of_getElem? (i := 56) rfl))) (by decide) (t := (.object "java/lang/String")) (t' := (.object "java/lang/String")) (by decide) (by decide)))
  have c246 : Fld Z h233 a1 "com/example/titlepoint/titlepoint/FieldDefinition" "subfieldLabels" "Ljava/util/Map;" .null := c228.other W233 (Or.inr (slot_ne (Or.inr (hw _ (List.mem_of_getElem? (i := 52) rfl))) (Or.inr (hw _ (List.mem_of_getElem? (i := 56) rfl))) (by decide) (t := (.object "java/util/Map")) (t' := (.object "java/lang/String")) (by decide) (by decide)))
  have c247 : Fld Z h233 a1 "com/example/titlepoint/titlepoint/FieldDefinition" "entity" "Ljava/lang/String;" (.ref a13) := c229.other W233 (Or.inr (slot_ne (Or.inr (hw _ (List.mem_of_getElem? (i := 54) rfl))) (Or.inr (hw _ (List.mem_of_getElem? (i := 56) rfl))) (by decide) (t := (.object "java/lang/String")) (t' := (.object "java/lang/String")) (by decide) (by decide)))
  have c248 : Fld Z h233 a1 "com/example/titlepoint/titlepoint/FieldDefinition" "embeds" "Ljava/lang/String;" (.ref a14) := c230.same W233
  have c249 : Fld Z h233 a1 "com/example/titlepoint/titlepoint/FieldDefinition" "standardIndicator2" "Ljava/lang/String;" .null := c231.other W233 (Or.inr (slot_ne (Or.inr (hw _ (List.mem_of_getElem? (i := 58) rfl))) (Or.inr (hw _ (List.mem_of_getElem? (i := 56) rfl))) (by decide) (t := (.object "java/lang/String")) (t' := (.object "java/lang/String")) (by decide) (by decide)))
  have c250 : Keep h0 h233 [a1] := c232.wr W233 (Or.inl (List.mem_of_getElem? (i := 0) rfl))
  obtain ⟨T251, h251, X251, e251, W251, st251⟩ := putF X233 hx hZ hown (host := "") (Or.inl (hw _ (List.mem_of_getElem? (i := 57) rfl))) Via.refl e233 c249 c235 (Or.inr ⟨(hw _ (List.mem_of_getElem? (i := 58) rfl)), rfl, hnm⟩) (hw _ (List.mem_of_getElem? (i := 14) rfl)) (ty := (.object "java/lang/String")) (by decide) rfl rfl (g := (mkF m 82 #[.val (.ref a1), .val (.ref a2), .val (.ref a3), .val (.int p4), .val (.ref a5), .val (.ref a6), .val (.ref a7), .val (.ref a8), .val (.ref a9), .val (.ref a10), .val (.ref a11), .val .null, .val (.ref a13), .val (.ref a14), .val (.ref a15)] [(.ref a15), (.ref a1)])) rfl rfl (hb hby d2_82)
  have N251 := Fr.snoc X251 N233 g_a1
  have c252 : n0 ≤ h251.size := Nat.le_trans c234 (Keep.of_wr W251).1
  have c253 : Exa Z h251 a1 "com/example/titlepoint/titlepoint/FieldDefinition" := c235.wr W251
  have c254 : Fld Z h251 a1 "com/example/titlepoint/titlepoint/FieldDefinition" "tag" "Ljava/lang/String;" (.ref a2) := c236.other W251 (Or.inr (slot_ne (Or.inr (hw _ (List.mem_of_getElem? (i := 32) rfl))) (Or.inr (hw _ (List.mem_of_getElem? (i := 58) rfl))) (by decide) (t := (.object "java/lang/String")) (t' := (.object "java/lang/String")) (by decide) (by decide)))
  have c255 : Fld Z h251 a1 "com/example/titlepoint/titlepoint/FieldDefinition" "label" "Ljava/lang/String;" (.ref a3) := c237.other W251 (Or.inr (slot_ne (Or.inr (hw _ (List.mem_of_getElem? (i := 34) rfl))) (Or.inr (hw _ (List.mem_of_getElem? (i := 58) rfl))) (by decide) (t := (.object "java/lang/String")) (t' := (.object "java/lang/String")) (by decide) (by decide)))
  have c256 : Fld Z h251 a1 "com/example/titlepoint/titlepoint/FieldDefinition" "fieldRepeatable" "Z" (.int (nar .boolean p4)) := c238.other W251 (Or.inr (slot_ne (Or.inr (hw _ (List.mem_of_getElem? (i := 36) rfl))) (Or.inr (hw _ (List.mem_of_getElem? (i := 58) rfl))) (by decide) (t := .boolean) (t' := (.object "java/lang/String")) (by decide) (by decide)))
  have c257 : Fld Z h251 a1 "com/example/titlepoint/titlepoint/FieldDefinition" "indicator1" "Ljava/lang/String;" (.ref a5) := c239.other W251 (Or.inr (slot_ne (Or.inr (hw _ (List.mem_of_getElem? (i := 38) rfl))) (Or.inr (hw _ (List.mem_of_getElem? (i := 58) rfl))) (by decide) (t := (.object "java/lang/String")) (t' := (.object "java/lang/String")) (by decide) (by decide)))
  have c258 : Fld Z h251 a1 "com/example/titlepoint/titlepoint/FieldDefinition" "indicator2" "Ljava/lang/String;" (.ref a6) := c240.other W251 (Or.inr (slot_ne (Or.inr (hw _ (List.mem_of_getElem? (i := 40) rfl))) (Or.inr (hw _ (List.mem_of_getElem? (i := 58) rfl))) (by decide) (t := (.object "java/lang/String")) (t' := (.object "java/lang/String")) (by decide) (by decide)))
  have c259 : Fld Z h251 a1 "com/example/titlepoint/titlepoint/FieldDefinition" "work" "Ljava/lang/String;" (.ref a7) := c241.other W251 (Or.inr (slot_ne (Or.inr (hw _ (List.mem_of_getElem? (i := 42) rfl))) (Or.inr (hw _ (List.mem_of_getElem? (i := 58) rfl))) (by decide) (t := (.object "java/lang/String")) (t' := (.object "java/lang/String")) (by decide) (by decide)))
  have c260 : Fld Z h251 a1 "com/example/titlepoint/titlepoint/FieldDefinition" "expression" "Ljava/lang/String;" (.ref a8) := c242.other W251 (Or.inr (slot_ne (Or.inr (hw _ (List.mem_of_getElem? (i := 44) rfl))) (Or.inr (hw _ (List.mem_of_getElem? (i := 58) rfl))) (by decide) (t := (.object "java/lang/String")) (t' := (.object "java/lang/String")) (by decide) (by decide)))
  have c261 : Fld Z h251 a1 "com/example/titlepoint/titlepoint/FieldDefinition" "others" "Ljava/lang/String;" (.ref a9) := c243.other W251 (Or.inr (slot_ne (Or.inr (hw _ (List.mem_of_getElem? (i := 46) rfl))) (Or.inr (hw _ (List.mem_of_getElem? (i := 58) rfl))) (by decide) (t := (.object "java/lang/String")) (t' := (.object "java/lang/String")) (by decide) (by decide)))
  have c262 : Fld Z h251 a1 "com/example/titlepoint/titlepoint/FieldDefinition" "repeatable" "Ljava/lang/String;" (.ref a10) := c244.other W251 (Or.inr (slot_ne (Or.inr (hw _ (List.mem_of_getElem? (i := 48) rfl))) (Or.inr (hw _ (List.mem_of_getElem? (i := 58) rfl))) (by decide) (t := (.object "java/lang/String")) (t' := (.object "java/lang/String")) (by decide) (by decide)))
  have c263 : Fld Z h251 a1 "com/example/titlepoint/titlepoint/FieldDefinition" "required" "Ljava/lang/String;" (.ref a11) := c245.other W251 (Or.inr (slot_ne (Or.inr (hw _ (List.mem_of_getElem? (i := 50) rfl))) (Or.inr (hw _ (List.mem_of_getElem? (i := 58) rfl))) (by decide) (t := (.object "java/lang/String")) (t' := (.object "java/lang/String")) (by decide) (by decide)))
  have c264 : Fld Z h251 a1 "com/example/titlepoint/titlepoint/FieldDefinition" "subfieldLabels" "Ljava/util/Map;" .null := c246.other W251 (Or.inr (slot_ne (Or.inr (hw _ (List.mem_of_getElem? (i := 52) rfl))) (Or.inr (hw _ (List.mem_of_getElem? (i := 58) rfl))) (by decide) (t := (.object "java/util/Map")) (t' := (.object "java/lang/String")) (by decide) (by decide)))
  have c265 : Fld Z h251 a1 "com/example/titlepoint/titlepoint/FieldDefinition" "entity" "Ljava/lang/String;" (.ref a13) := c247.other W251 (Or.inr (slot_ne (Or.inr (hw _ (List.mem_of_getElem? (i := 54) rfl))) (Or.inr (hw _ (List.mem_of_getElem? (i := 58) rfl))) (by decide) (t := (.object "java/lang/String")) (t' := (.object "java/lang/String")) (by decide) (by decide)))
  have c266 : Fld Z h251 a1 "com/example/titlepoint/titlepoint/FieldDefinition" "embeds" "Ljava/lang/String;" (.ref a14) := c248.other W251 (Or.inr (slot_ne (Or.inr (hw _ (List.mem_of_getElem? (i := 56) rfl))) (Or.inr (hw _ (List.mem_of_getElem? (i := 58) rfl))) (by decide) (t := (.object "java/lang/String")) (t' := (.object "java/lang/String")) (by decide) (by decide)))
  have c267 : Fld Z h251 a1 "com/example/titlepoint/titlepoint/FieldDefinition" "standardIndicator2" "Ljava/lang/String;" (.ref a15) := c249.same W251
  have c268 : Keep h0 h251 [a1] := c250.wr W251 (Or.inl (List.mem_of_getElem? (i := 0) rfl))
  have eq1 : (f2_o2 p4 w_fieldRepeatable_a1) = (nar .boolean p4) := rfl
  obtain ⟨fs, hr, hrun, hended, hW, hsame⟩ := X251.leave (v := none) (fun _ => rfl)
  refine ⟨_, _, pre0 _ ?_, hrun, hended, _, _, rfl, ?_, ⟨_, rfl⟩, hW, hsame.mono (by decide) (by decide)⟩
  · show Steps p.tables e below (s₁.setTop (mkF m 0 #[.val (.ref a1), .val (.ref a2), .val (.ref a3), .val (.int p4), .val (.ref a5), .val (.ref a6), .val (.ref a7), .val (.ref a8), .val (.ref a9), .val (.ref a10), .val (.ref a11), .val .null, .val (.ref a13), .val (.ref a14), .val (.ref a15)] [])) _
    refine XS.aloadN X0.here hx rfl (hb hby d2_0) rfl rfl ?_
    show Steps p.tables e below (s₁.setTop (mkF m 1 #[.val (.ref a1), .val (.ref a2), .val (.ref a3), .val (.int p4), .val (.ref a5), .val (.ref a6), .val (.ref a7), .val (.ref a8), .val (.ref a9), .val (.ref a10), .val (.ref a11), .val .null, .val (.ref a13), .val (.ref a14), .val (.ref a15)] [(.ref a1)])) _
    refine st16.trans ?_
    show Steps p.tables e below (T16.setTop (mkF m 4 #[.val (.ref a1), .val (.ref a2), .val (.ref a3), .val (.int p4), .val (.ref a5), .val (.ref a6), .val (.ref a7), .val (.ref a8), .val (.ref a9), .val (.ref a10), .val (.ref a11), .val .null, .val (.ref a13), .val (.ref a14), .val (.ref a15)] [])) _
    refine XS.aloadN X16.here hx rfl (hb hby d2_4) rfl rfl ?_
    show Steps p.tables e below (T16.setTop (mkF m 5 #[.val (.ref a1), .val (.ref a2), .val (.ref a3), .val (.int p4), .val (.ref a5), .val (.ref a6), .val (.ref a7), .val (.ref a8), .val (.ref a9), .val (.ref a10), .val (.ref a11), .val .null, .val (.ref a13), .val (.ref a14), .val (.ref a15)] [(.ref a1)])) _
    refine XS.aloadN X16.here hx rfl (hb hby d2_5) rfl rfl ?_
    show Steps p.tables e below (T16.setTop (mkF m 6 #[.val (.ref a1), .val (.ref a2), .val (.ref a3), .val (.int p4), .val (.ref a5), .val (.ref a6), .val (.ref a7), .val (.ref a8), .val (.ref a9), .val (.ref a10), .val (.ref a11), .val .null, .val (.ref a13), .val (.ref a14), .val (.ref a15)] [(.ref a2), (.ref a1)])) _
    refine st17 _ ?_
    show Steps p.tables e below (T17.setTop (mkF m 9 #[.val (.ref a1), .val (.ref a2), .val (.ref a3), .val (.int p4), .val (.ref a5), .val (.ref a6), .val (.ref a7), .val (.ref a8), .val (.ref a9), .val (.ref a10), .val (.ref a11), .val .null, .val (.ref a13), .val (.ref a14), .val (.ref a15)] [])) _
    refine XS.aloadN X17.here hx rfl (hb hby d2_9) rfl rfl ?_
    show Steps p.tables e below (T17.setTop (mkF m 10 #[.val (.ref a1), .val (.ref a2), .val (.ref a3), .val (.int p4), .val (.ref a5), .val (.ref a6), .val (.ref a7), .val (.ref a8), .val (.ref a9), .val (.ref a10), .val (.ref a11), .val .null, .val (.ref a13), .val (.ref a14), .val (.ref a15)] [(.ref a1)])) _
    refine XS.aloadN X17.here hx rfl (hb hby d2_10) rfl rfl ?_
    show Steps p.tables e below (T17.setTop (mkF m 11 #[.val (.ref a1), .val (.ref a2), .val (.ref a3), .val (.int p4), .val (.ref a5), .val (.ref a6), .val (.ref a7), .val (.ref a8), .val (.ref a9), .val (.ref a10), .val (.ref a11), .val .null, .val (.ref a13), .val (.ref a14), .val (.ref a15)] [(.ref a3), (.ref a1)])) _
    refine st35 _ ?_
    show Steps p.tables e below (T35.setTop (mkF m 14 #[.val (.ref a1), .val (.ref a2), .val (.ref a3), .val (.int p4), .val (.ref a5), .val (.ref a6), .val (.ref a7), .val (.ref a8), .val (.ref a9), .val (.ref a10), .val (.ref a11), .val .null, .val (.ref a13), .val (.ref a14), .val (.ref a15)] [])) _
    refine XS.aloadN X35.here hx rfl (hb hby d2_14) rfl rfl ?_
    show Steps p.tables e below (T35.setTop (mkF m 15 #[.val (.ref a1), .val (.ref a2), .val (.ref a3), .val (.int p4), .val (.ref a5), .val (.ref a6), .val (.ref a7), .val (.ref a8), .val (.ref a9), .val (.ref a10), .val (.ref a11), .val .null, .val (.ref a13), .val (.ref a14), .val (.ref a15)] [(.ref a1)])) _
    refine XS.iloadN X35.here hx rfl (hb hby d2_15) rfl ?_
    show Steps p.tables e below (T35.setTop (mkF m 16 #[.val (.ref a1), .val (.ref a2), .val (.ref a3), .val (.int p4), .val (.ref a5), .val (.ref a6), .val (.ref a7), .val (.ref a8), .val (.ref a9), .val (.ref a10), .val (.ref a11), .val .null, .val (.ref a13), .val (.ref a14), .val (.ref a15)] [(.int p4), (.ref a1)])) _
    refine st53 _ ?_
    show Steps p.tables e below (T53.setTop (mkF m 19 #[.val (.ref a1), .val (.ref a2), .val (.ref a3), .val (.int p4), .val (.ref a5), .val (.ref a6), .val (.ref a7), .val (.ref a8), .val (.ref a9), .val (.ref a10), .val (.ref a11), .val .null, .val (.ref a13), .val (.ref a14), .val (.ref a15)] [])) _
    refine XS.aloadN X53.here hx rfl (hb hby d2_19) rfl rfl ?_
    show Steps p.tables e below (T53.setTop (mkF m 20 #[.val (.ref a1), .val (.ref a2), .val (.ref a3), .val (.int p4), .val (.ref a5), .val (.ref a6), .val (.ref a7), .val (.ref a8), .val (.ref a9), .val (.ref a10), .val (.ref a11), .val .null, .val (.ref a13), .val (.ref a14), .val (.ref a15)] [(.ref a1)])) _
    refine XS.aload X53.here hx rfl (hb hby d2_20) rfl rfl ?_
    show Steps p.tables e below (T53.setTop (mkF m 22 #[.val (.ref a1), .val (.ref a2), .val (.ref a3), .val (.int p4), .val (.ref a5), .val (.ref a6), .val (.ref a7), .val (.ref a8), .val (.ref a9), .val (.ref a10), .val (.ref a11), .val .null, .val (.ref a13), .val (.ref a14), .val (.ref a15)] [(.ref a5), (.ref a1)])) _
    refine st71 _ ?_
    show Steps p.tables e below (T71.setTop (mkF m 25 #[.val (.ref a1), .val (.ref a2), .val (.ref a3), .val (.int p4), .val (.ref a5), .val (.ref a6), .val (.ref a7), .val (.ref a8), .val (.ref a9), .val (.ref a10), .val (.ref a11), .val .null, .val (.ref a13), .val (.ref a14), .val (.ref a15)] [])) _
    refine XS.aloadN X71.here hx rfl (hb hby d2_25) rfl rfl ?_
    show Steps p.tables e below (T71.setTop (mkF m 26 #[.val (.ref a1), .val (.ref a2), .val (.ref a3), .val (.int p4), .val (.ref a5), .val (.ref a6), .val (.ref a7), .val (.ref a8), .val (.ref a9), .val (.ref a10), .val (.ref a11), .val .null, .val (.ref a13), .val (.ref a14), .val (.ref a15)] [(.ref a1)])) _
    refine XS.aload X71.here hx rfl (hb hby d2_26) rfl rfl ?_
    show Steps p.tables e below (T71.setTop (mkF m 28 #[.val (.ref a1), .val (.ref a2), .val (.ref a3), .val (.int p4), .val (.ref a5), .val (.ref a6), .val (.ref a7), .val (.ref a8), .val (.ref a9), .val (.ref a10), .val (.ref a11), .val .null, .val (.ref a13), .val (.ref a14), .val (.ref a15)] [(.ref a6), (.ref a1)])) _
    refine st89 _ ?_
    show Steps p.tables e below (T89.setTop (mkF m 31 #[.val (.ref a1), .val (.ref a2), .val (.ref a3), .val (.int p4), .val (.ref a5), .val (.ref a6), .val (.ref a7), .val (.ref a8), .val (.ref a9), .val (.ref a10), .val (.ref a11), .val .null, .val (.ref a13), .val (.ref a14), .val (.ref a15)] [])) _
    refine XS.aloadN X89.here hx rfl (hb hby d2_31) rfl rfl ?_
    show Steps p.tables e below (T89.setTop (mkF m 32 #[.val (.ref a1), .val (.ref a2), .val (.ref a3), .val (.int p4), .val (.ref a5), .val (.ref a6), .val (.ref a7), .val (.ref a8), .val (.ref a9), .val (.ref a10), .val (.ref a11), .val .null, .val (.ref a13), .val (.ref a14), .val (.ref a15)] [(.ref a1)])) _
    refine XS.aload X89.here hx rfl (hb hby d2_32) rfl rfl ?_
    show Steps p.tables e below (T89.setTop (mkF m 34 #[.val (.ref a1), .val (.ref a2), .val (.ref a3), .val (.int p4), .val (.ref a5), .val (.ref a6), .val (.ref a7), .val (.ref a8), .val (.ref a9), .val (.ref a10), .val (.ref a11), .val .null, .val (.ref a13), .val (.ref a14), .val (.ref a15)] [(.ref a7), (.ref a1)])) _
    refine st107 _ ?_
    show Steps p.tables e below (T107.setTop (mkF m 37 #[.val (.ref a1), .val (.ref a2), .val (.ref a3), .val (.int p4), .val (.ref a5), .val (.ref a6), .val (.ref a7), .val (.ref a8), .val (.ref a9), .val (.ref a10), .val (.ref a11), .val .null, .val (.ref a13), .val (.ref a14), .val (.ref a15)] [])) _
    refine XS.aloadN X107.here hx rfl (hb hby d2_37) rfl rfl ?_
    show Steps p.tables e below (T107.setTop (mkF m 38 #[.val (.ref a1), .val (.ref a2), .val (.ref a3), .val (.int p4), .val (.ref a5), .val (.ref a6), .val (.ref a7), .val (.ref a8), .val (.ref a9), .val (.ref a10), .val (.ref a11), .val .null, .val (.ref a13), .val (.ref a14), .val (.ref a15)] [(.ref a1)])) _
    refine XS.aload X107.here hx rfl (hb hby d2_38) rfl rfl ?_
    show Steps p.tables e below (T107.setTop (mkF m 40 #[.val (.ref a1), .val (.ref a2), .val (.ref a3), .val (.int p4), .val (.ref a5), .val (.ref a6), .val (.ref a7), .val (.ref a8), .val (.ref a9), .val (.ref a10), .val (.ref a11), .val .null, .val (.ref a13), .val (.ref a14), .val (.ref a15)] [(.ref a8), (.ref a1)])) _
    refine st125 _ ?_
    show Steps p.tables e below (T125.setTop (mkF m 43 #[.val (.ref a1), .val (.ref a2), .val (.ref a3), .val (.int p4), .val (.ref a5), .val (.ref a6), .val (.ref a7), .val (.ref a8), .val (.ref a9), .val (.ref a10), .val (.ref a11), .val .null, .val (.ref a13), .val (.ref a14), .val (.ref a15)] [])) _
    refine XS.aloadN X125.here hx rfl (hb hby d2_43) rfl rfl ?_
    show Steps p.tables e below (T125.setTop (mkF m 44 #[.val (.ref a1), .val (.ref a2), .val (.ref a3), .val (.int p4), .val (.ref a5), .val (.ref a6), .val (.ref a7), .val (.ref a8), .val (.ref a9), .val (.ref a10), .val (.ref a11), .val .null, .val (.ref a13), .val (.ref a14), .val (.ref a15)] [(.ref a1)])) _
    refine XS.aload X125.here hx rfl (hb hby d2_44) rfl rfl ?_
    show Steps p.tables e below (T125.setTop (mkF m 46 #[.val (.ref a1), .val (.ref a2), .val (.ref a3), .val (.int p4), .val (.ref a5), .val (.ref a6), .val (.ref a7), .val (.ref a8), .val (.ref a9), .val (.ref a10), .val (.ref a11), .val .null, .val (.ref a13), .val (.ref a14), .val (.ref a15)] [(.ref a9), (.ref a1)])) _
    refine st143 _ ?_
    show Steps p.tables e below (T143.setTop (mkF m 49 #[.val (.ref a1), .val (.ref a2), .val (.ref a3), .val (.int p4), .val (.ref a5), .val (.ref a6), .val (.ref a7), .val (.ref a8), .val (.ref a9), .val (.ref a10), .val (.ref a11), .val .null, .val (.ref a13), .val (.ref a14), .val (.ref a15)] [])) _
    refine XS.aloadN X143.here hx rfl (hb hby d2_49) rfl rfl ?_
    show Steps p.tables e below (T143.setTop (mkF m 50 #[.val (.ref a1), .val (.ref a2), .val (.ref a3), .val (.int p4), .val (.ref a5), .val (.ref a6), .val (.ref a7), .val (.ref a8), .val (.ref a9), .val (.ref a10), .val (.ref a11), .val .null, .val (.ref a13), .val (.ref a14), .val (.ref a15)] [(.ref a1)])) _
    refine XS.aload X143.here hx rfl (hb hby d2_50) rfl rfl ?_
    show Steps p.tables e below (T143.setTop (mkF m 52 #[.val (.ref a1), .val (.ref a2), .val (.ref a3), .val (.int p4), .val (.ref a5), .val (.ref a6), .val (.ref a7), .val (.ref a8), .val (.ref a9), .val (.ref a10), .val (.ref a11), .val .null, .val (.ref a13), .val (.ref a14), .val (.ref a15)] [(.ref a10), (.ref a1)])) _
    refine st161 _ ?_
    show Steps p.tables e below (T161.setTop (mkF m 55 #[.val (.ref a1), .val (.ref a2), .val (.ref a3), .val (.int p4), .val (.ref a5), .val (.ref a6), .val (.ref a7), .val (.ref a8), .val (.ref a9), .val (.ref a10), .val (.ref a11), .val .null, .val (.ref a13), .val (.ref a14), .val (.ref a15)] [])) _
    refine XS.aloadN X161.here hx rfl (hb hby d2_55) rfl rfl ?_
    show Steps p.tables e below (T161.setTop (mkF m 56 #[.val (.ref a1), .val (.ref a2), .val (.ref a3), .val (.int p4), .val (.ref a5), .val (.ref a6), .val (.ref a7), .val (.ref a8), .val (.ref a9), .val (.ref a10), .val (.ref a11), .val .null, .val (.ref a13), .val (.ref a14), .val (.ref a15)] [(.ref a1)])) _
    refine XS.aload X161.here hx rfl (hb hby d2_56) rfl rfl ?_
    show Steps p.tables e below (T161.setTop (mkF m 58 #[.val (.ref a1), .val (.ref a2), .val (.ref a3), .val (.int p4), .val (.ref a5), .val (.ref a6), .val (.ref a7), .val (.ref a8), .val (.ref a9), .val (.ref a10), .val (.ref a11), .val .null, .val (.ref a13), .val (.ref a14), .val (.ref a15)] [(.ref a11), (.ref a1)])) _
    refine st179 _ ?_
    show Steps p.tables e below (T179.setTop (mkF m 61 #[.val (.ref a1), .val (.ref a2), .val (.ref a3), .val (.int p4), .val (.ref a5), .val (.ref a6), .val (.ref a7), .val (.ref a8), .val (.ref a9), .val (.ref a10), .val (.ref a11), .val .null, .val (.ref a13), .val (.ref a14), .val (.ref a15)] [])) _
    refine XS.aloadN X179.here hx rfl (hb hby d2_61) rfl rfl ?_
    show Steps p.tables e below (T179.setTop (mkF m 62 #[.val (.ref a1), .val (.ref a2), .val (.ref a3), .val (.int p4), .val (.ref a5), .val (.ref a6), .val (.ref a7), .val (.ref a8), .val (.ref a9), .val (.ref a10), .val (.ref a11), .val .null, .val (.ref a13), .val (.ref a14), .val (.ref a15)] [(.ref a1)])) _
    refine XS.aload X179.here hx rfl (hb hby d2_62) rfl rfl ?_
    show Steps p.tables e below (T179.setTop (mkF m 64 #[.val (.ref a1), .val (.ref a2), .val (.ref a3), .val (.int p4), .val (.ref a5), .val (.ref a6), .val (.ref a7), .val (.ref a8), .val (.ref a9), .val (.ref a10), .val (.ref a11), .val .null, .val (.ref a13), .val (.ref a14), .val (.ref a15)] [.null, (.ref a1)])) _
    refine st197 _ ?_
    show Steps p.tables e below (T197.setTop (mkF m 67 #[.val (.ref a1), .val (.ref a2), .val (.ref a3), .val (.int p4), .val (.ref a5), .val (.ref a6), .val (.ref a7), .val (.ref a8), .val (.ref a9), .val (.ref a10), .val (.ref a11), .val .null, .val (.ref a13), .val (.ref a14), .val (.ref a15)] [])) _
    refine XS.aloadN X197.here hx rfl (hb hby d2_67) rfl rfl ?_
    show Steps p.tables e below (T197.setTop (mkF m 68 #[.val (.ref a1), .val (.ref a2), .val (.ref a3), .val (.int p4), .val (.ref a5), .val (.ref a6), .val (.ref a7), .val (.ref a8), .val (.ref a9), .val (.ref a10), .val (.ref a11), .val .null, .val (.ref a13), .val (.ref a14), .val (.ref a15)] [(.ref a1)])) _
    refine XS.aload X197.here hx rfl (hb hby d2_68) rfl rfl ?_
    show Steps p.tables e below (T197.setTop (mkF m 70 #[.val (.ref a1), .val (.ref a2), .val (.ref a3), .val (.int p4), .val (.ref a5), .val (.ref a6), .val (.ref a7), .val (.ref a8), .val (.ref a9), .val (.ref a10), .val (.ref a11), .val .null, .val (.ref a13), .val (.ref a14), .val (.ref a15)] [(.ref a13), (.ref a1)])) _
    refine st215 _ ?_
    show Steps p.tables e below (T215.setTop (mkF m 73 #[.val (.ref a1), .val (.ref a2), .val (.ref a3), .val (.int p4), .val (.ref a5), .val (.ref a6), .val (.ref a7), .val (.ref a8), .val (.ref a9), .val (.ref a10), .val (.ref a11), .val .null, .val (.ref a13), .val (.ref a14), .val (.ref a15)] [])) _
    refine XS.aloadN X215.here hx rfl (hb hby d2_73) rfl rfl ?_
    show Steps p.tables e below (T215.setTop (mkF m 74 #[.val (.ref a1), .val (.ref a2), .val (.ref a3), .val (.int p4), .val (.ref a5), .val (.ref a6), .val (.ref a7), .val (.ref a8), .val (.ref a9), .val (.ref a10), .val (.ref a11), .val .null, .val (.ref a13), .val (.ref a14), .val (.ref a15)] [(.ref a1)])) _
    refine XS.aload X215.here hx rfl (hb hby d2_74) rfl rfl ?_
    show Steps p.tables e below (T215.setTop (mkF m 76 #[.val (.ref a1), .val (.ref a2), .val (.ref a3), .val (.int p4), .val (.ref a5), .val (.ref a6), .val (.ref a7), .val (.ref a8), .val (.ref a9), .val (.ref a10), .val (.ref a11), .val .null, .val (.ref a13), .val (.ref a14), .val (.ref a15)] [(.ref a14), (.ref a1)])) _
    refine st233 _ ?_
    show Steps p.tables e below (T233.setTop (mkF m 79 #[.val (.ref a1), .val (.ref a2), .val (.ref a3), .val (.int p4), .val (.ref a5), .val (.ref a6), .val (.ref a7), .val (.ref a8), .val (.ref a9), .val (.ref a10), .val (.ref a11), .val .null, .val (.ref a13), .val (.ref a14), .val (.ref a15)] [])) _
    refine XS.aloadN X233.here hx rfl (hb hby d2_79) rfl rfl ?_
    show Steps p.tables e below (T233.setTop (mkF m 80 #[.val (.ref a1), .val (.ref a2), .val (.ref a3), .val (.int p4), .val (.ref a5), .val (.ref a6), .val (.ref a7), .val (.ref a8), .val (.ref a9), .val (.ref a10), .val (.ref a11), .val .null, .val (.ref a13), .val (.ref a14), .val (.ref a15)] [(.ref a1)])) _
    refine XS.aload X233.here hx rfl (hb hby d2_80) rfl rfl ?_
    show Steps p.tables e below (T233.setTop (mkF m 82 #[.val (.ref a1), .val (.ref a2), .val (.ref a3), .val (.int p4), .val (.ref a5), .val (.ref a6), .val (.ref a7), .val (.ref a8), .val (.ref a9), .val (.ref a10), .val (.ref a11), .val .null, .val (.ref a13), .val (.ref a14), .val (.ref a15)] [(.ref a15), (.ref a1)])) _
    refine st251 _ ?_
    show Steps p.tables e below (T251.setTop (mkF m 85 #[.val (.ref a1), .val (.ref a2), .val (.ref a3), .val (.int p4), .val (.ref a5), .val (.ref a6), .val (.ref a7), .val (.ref a8), .val (.ref a9), .val (.ref a10), .val (.ref a11), .val .null, .val (.ref a13), .val (.ref a14), .val (.ref a15)] [])) _
    exact X251.returnOut hx Bd.returns (hb hby d2_85) hr
  · show Q2 Z a1 a2 a3 p4 a5 a6 a7 a8 a9 a10 a11 a13 a14 a15 w_fieldRepeatable_a1 h0 n0 _ T251.heap _
    rw [e251]
    exact ⟨rfl, N251, c268, c254, c255, (by rw [eq1]; exact c256), c257, c258, c259, c260, c261, c262, c263, c264, c265, c266, c267⟩
theorem d1_4 : decode method_2_code 4 = .ok (.ldc 7, 2) := by decide +kernel
theorem d1_6 : decode method_2_code 6 = .ok (.areturn, 1) := by decide +kernel
theorem ef_1z (m : MethodId) (x0 : Int32) (x1 : Int32) (x2 : Int32) (x3 : Int32) : entryFrame m #[(.int x0), (.int x1), (.int x2), (.int x3)] 4 = mkF m 0 #[.val (.int x0), .val (.int x1), .val (.int x2), .val (.int x3)] [] := by first | (simp [entryFrame, mkF, argsToLocals, Value.category]; done) | rfl
def f1z_x1n (p1 : Int32) (p2 : Int32) (p3 : Int32) (p4 : Int32) : Int32 := (0 : Int32)
def f1z_x1c (p1 : Int32) (p2 : Int32) (p3 : Int32) (p4 : Int32) : Nat → Int32 := (fun _ => 0)
def Q1z (Z : State) (p1 : Int32) (p2 : Int32) (p3 : Int32) (p4 : Int32) (h0 : Heap) (n0 : Nat) (v : Option Value) (h : Heap) (L : List Loc) : Prop := ∃ (r0 : Addr) (r1 : Addr), v = some (.ref r0) ∧ Fr n0 L ∧ Keep h0 h [] ∧ Exa Z h r0 "java/lang/String" ∧ IAr Z h r1 .byte (f1z_x1n p1 p2 p3 p4) (f1z_x1c p1 p2 p3 p4) ∧ Fld Z h r0 "java/lang/String" "value" "[B" (.ref r1)
set_option maxRecDepth 65536 in
set_option maxHeartbeats 40000000 in
theorem rm1z (l : Launch) (Z : State) (a0 : Array Value) (hw : ∀ d ∈ tables_1, d.before a0 Z = true) (ws : List Jvm.Cond) (p1 : Int32) (p2 : Int32) (p3 : Int32) (p4 : Int32) (h0 : Heap) (n0 : Nat) (Z0 : n0 ≤ h0.size) (kz : p1 = 0) (hz0 : h0 = Z.heap) (hheld : Jvm.Lit.constHeld Z "com/example/titlepoint/titlepoint/FieldDefinitionIsAuthorizedAccessPointPinLaw" 7) (hcw : Jvm.Lit.compactW.before a0 Z = true) :
    MetFree l (⟨"com/example/titlepoint/titlepoint/FieldDefinitionIsAuthorizedAccessPointPinLaw", "drawn", "(ICCC)Ljava/lang/String;"⟩ : MethodName) (head1 (Jvm.Cond.code (⟨"com/example/titlepoint/titlepoint/FieldDefinitionIsAuthorizedAccessPointPinLaw", "drawn", "(ICCC)Ljava/lang/String;"⟩ : MethodName) method_2_code 4 (some (.object "java/lang/String")) :: ws) ({ frames := 4, cells := 3, slots := 20, locals := 66 } : Room)) (fun a U => a = #[(.int p1), (.int p2), (.int p3), (.int p4)] ∧ Z.Warmed39 U.vm ∧ U.heap = h0 ∧ U.vm.interned = Z.vm.interned) (fun _ _ _ _ _ => True) (fun _ U o U' => ∃ v L, o = .returned v ∧ Q1z Z p1 p2 p3 p4 h0 n0 v U'.heap L ∧ ReturnedEndW U o U' L ({ frames := 4, cells := 3, slots := 20, locals := 66 } : Room).cells ({ frames := 4, cells := 3, slots := 20, locals := 66 } : Room).slots) := by
  refine MetFree.of_bodySF (plainFor_of_name pn_3) hisR ?_
  intro p e s m args below meth c s₁ Bd hml0 hP hK
  obtain ⟨rfl, hZ, hh, hint⟩ := hP
  have hx := Bd.exec
  have hby := Bd.bytes
  have hml : c.maxLocals = 4 := hml0
  have hown : s.vm.findClass "com/example/titlepoint/titlepoint/FieldDefinitionIsAuthorizedAccessPointPinLaw" = some m.cls := findClass_of_methodNamed Bd.named
  have hnm := (name_of_methodNamed Bd.named Bd.method).1
  have X0 : Stand p l e ({ frames := 4, cells := 3, slots := 20, locals := 66 } : Room) s m #[(.int p1), (.int p2), (.int p3), (.int p4)] below meth c s₁ [] 0 0 := Stand.of_body Bd
  have e0 : s₁.heap = h0 := by rw [← hh, Bd.state]; rfl
  have N0 := Fr.nil n0
  have pre0 : ∀ t, Steps p.tables e below (s₁.setTop (mkF m 0 #[.val (.int p1), .val (.int p2), .val (.int p3), .val (.int p4)] [])) t → Steps p.tables e below (s₁.setTop (entryFrame m #[(.int p1), (.int p2), (.int p3), (.int p4)] 4)) t := fun t k => castTop (ef_1z m p1 p2 p3 p4) k
  have hZ_0 := hZ
  have hown_0 := hown
  obtain ⟨rs5, T5, h5, k5, b5, q5, X5, e5, E5, S5, y5, hZ, hown, EX5, FC5, FV5, AV5, -, -, -, st5⟩ := ldcSV (s := s) (vm0 := s.vm) X0 hx hZ hown (hw _ (List.mem_of_getElem? (i := 5) rfl)) (own_wS hw) e0 ((State.WarmedH.refl s).since h0.size) (Nat.le_refl _) (Fr.nil _) (own_keep hh hz0) (own_IB hint) List.not_mem_nil hheld hcw (vs := []) (z := (0 : Int32)) ⟨by decide, by decide⟩ (by decide) (by decide) (g := (mkF m 4 #[.val (.int p1), .val (.int p2), .val (.int p3), .val (.int p4)] [])) rfl (hb hby d1_4) (n := 16) (by decide) (by decide) (by decide) (by decide)
  have c6 : n0 ≤ h5.size := Nat.le_trans Z0 E5.1
  have c7 : Keep h0 h5 [] := (Keep.refl h0 []).ext E5
  have A5 : IAr Z h5 b5 .byte (0 : Int32) (fun _ => 0) := own_arv0 AV5
  have hZ_5 := hZ
  have hown_5 := hown
  have eq1 : (f1z_x1n p1 p2 p3 p4) = (0 : Int32) := rfl
  have eq2 : (f1z_x1c p1 p2 p3 p4) = (fun _ => 0) := rfl
  obtain ⟨fs, hr, hrun, hended, hEnd⟩ := X5.leaveW (s := s) S5 (by rw [e5]; exact y5) (v := some (.ref rs5)) (fun h => by rw [Bd.returns] at h; cases h)
  refine ⟨_, _, pre0 _ ?_, hrun, hended, _, _, rfl, ?_, hEnd.1, hEnd.2.1, hEnd.2.2.1, hEnd.2.2.2.mono (by decide) (by decide)⟩
  · show Steps p.tables e below (s₁.setTop (mkF m 0 #[.val (.int p1), .val (.int p2), .val (.int p3), .val (.int p4)] [])) _
    refine XS.iloadN X0.here hx rfl (hb hby d1_0) rfl ?_
    show Steps p.tables e below (s₁.setTop (mkF m 1 #[.val (.int p1), .val (.int p2), .val (.int p3), .val (.int p4)] [(.int p1)])) _
    refine XS.ifNo X0.here hx rfl (hb hby d1_1) rfl ((if0 _ _).trans (teq (kz : p1 = (0 : Int32))).2) ?_
    show Steps p.tables e below (s₁.setTop (mkF m 4 #[.val (.int p1), .val (.int p2), .val (.int p3), .val (.int p4)] [])) _
    refine st5 _ ?_
    show Steps p.tables e below (T5.setTop (mkF m 6 #[.val (.int p1), .val (.int p2), .val (.int p3), .val (.int p4)] [(.ref rs5)])) _
    jvm_step X5.here [X5.here.top, hx, (hb hby d1_6), X5.method', Bd.returns, Value.isRef, FieldType.isReference]
    first | (intro acts; rw [hr _ acts rfl rfl rfl]) | rw [hr _ _ rfl rfl rfl]
    exact Steps.refl _
  · show Q1z Z p1 p2 p3 p4 h0 n0 _ T5.heap _
    rw [e5]
    exact ⟨rs5, b5, rfl, N0, c7, EX5, (by rw [eq1, eq2]; exact A5), FV5⟩
theorem ef_1y (m : MethodId) (x0 : Int32) (x1 : Int32) (x2 : Int32) (x3 : Int32) : entryFrame m #[(.int x0), (.int x1), (.int x2), (.int x3)] 4 = mkF m 0 #[.val (.int x0), .val (.int x1), .val (.int x2), .val (.int x3)] [] := by first | (simp [entryFrame, mkF, argsToLocals, Value.category]; done) | rfl
def Q1y (Z : State) (p1 : Int32) (p2 : Int32) (p3 : Int32) (p4 : Int32) (h0 : Heap) (n0 : Nat) (v : Option Value) (h : Heap) (L : List Loc) : Prop := ∃ (r0 : Addr), v = some (.ref r0) ∧ Fr n0 L ∧ Keep h0 h []
set_option maxRecDepth 65536 in
set_option maxHeartbeats 40000000 in
theorem rm1y (l : Launch) (Z : State) (a0 : Array Value) (hw : ∀ d ∈ tables_1, d.before a0 Z = true) (ws : List Jvm.Cond) (p1 : Int32) (p2 : Int32) (p3 : Int32) (p4 : Int32) (h0 : Heap) (n0 : Nat) (Z0 : n0 ≤ h0.size) (kz : p1 = 0) :
    MetFree l (⟨"com/example/titlepoint/titlepoint/FieldDefinitionIsAuthorizedAccessPointPinLaw", "drawn", "(ICCC)Ljava/lang/String;"⟩ : MethodName) (head1 (Jvm.Cond.code (⟨"com/example/titlepoint/titlepoint/FieldDefinitionIsAuthorizedAccessPointPinLaw", "drawn", "(ICCC)Ljava/lang/String;"⟩ : MethodName) method_2_code 4 (some (.object "java/lang/String")) :: ws) ({ frames := 4, cells := 3, slots := 20, locals := 66 } : Room)) (fun a U => a = #[(.int p1), (.int p2), (.int p3), (.int p4)] ∧ Z.Warmed39 U.vm ∧ U.heap = h0) (fun _ _ _ _ _ => True) (fun _ U o U' => ∃ v L, o = .returned v ∧ Q1y Z p1 p2 p3 p4 h0 n0 v U'.heap L ∧ ReturnedEndW U o U' L ({ frames := 4, cells := 3, slots := 20, locals := 66 } : Room).cells ({ frames := 4, cells := 3, slots := 20, locals := 66 } : Room).slots) := by
  refine MetFree.of_bodySF (plainFor_of_name pn_3) hisR ?_
  intro p e s m args below meth c s₁ Bd hml0 hP hK
  obtain ⟨rfl, hZ, hh⟩ := hP
  have hx := Bd.exec
  have hby := Bd.bytes
  have hml : c.maxLocals = 4 := hml0
  have hown : s.vm.findClass "com/example/titlepoint/titlepoint/FieldDefinitionIsAuthorizedAccessPointPinLaw" = some m.cls := findClass_of_methodNamed Bd.named
  have hnm := (name_of_methodNamed Bd.named Bd.method).1
  have X0 : Stand p l e ({ frames := 4, cells := 3, slots := 20, locals := 66 } : Room) s m #[(.int p1), (.int p2), (.int p3), (.int p4)] below meth c s₁ [] 0 0 := Stand.of_body Bd
  have e0 : s₁.heap = h0 := by rw [← hh, Bd.state]; rfl
  have N0 := Fr.nil n0
  have pre0 : ∀ t, Steps p.tables e below (s₁.setTop (mkF m 0 #[.val (.int p1), .val (.int p2), .val (.int p3), .val (.int p4)] [])) t → Steps p.tables e below (s₁.setTop (entryFrame m #[(.int p1), (.int p2), (.int p3), (.int p4)] 4)) t := fun t k => castTop (ef_1y m p1 p2 p3 p4) k
  have hZ_0 := hZ
  have hown_0 := hown
  obtain ⟨rs5, T5, h5, k5, X5, e5, E5, S5, y5, hZ, hown, st5⟩ := ldcS (s := s) (vm0 := s.vm) X0 hx hZ hown (hw _ (List.mem_of_getElem? (i := 5) rfl)) (own_wS hw) e0 ((State.WarmedH.refl s).since h0.size) (Nat.le_refl _) (g := (mkF m 4 #[.val (.int p1), .val (.int p2), .val (.int p3), .val (.int p4)] [])) rfl (hb hby d1_4) (n := 16) (by decide) (by decide) (by decide) (by decide)
  have c6 : n0 ≤ h5.size := Nat.le_trans Z0 E5.1
  have c7 : Keep h0 h5 [] := (Keep.refl h0 []).ext E5
  have hZ_5 := hZ
  have hown_5 := hown
  obtain ⟨fs, hr, hrun, hended, hEnd⟩ := X5.leaveW (s := s) S5 (by rw [e5]; exact y5) (v := some (.ref rs5)) (fun h => by rw [Bd.returns] at h; cases h)
  refine ⟨_, _, pre0 _ ?_, hrun, hended, _, _, rfl, ?_, hEnd.1, hEnd.2.1, hEnd.2.2.1, hEnd.2.2.2.mono (by decide) (by decide)⟩
  · show Steps p.tables e below (s₁.setTop (mkF m 0 #[.val (.int p1), .val (.int p2), .val (.int p3), .val (.int p4)] [])) _
    refine XS.iloadN X0.here hx rfl (hb hby d1_0) rfl ?_
    show Steps p.tables e below (s₁.setTop (mkF m 1 #[.val (.int p1), .val (.int p2), .val (.int p3), .val (.int p4)] [(.int p1)])) _
    refine XS.ifNo X0.here hx rfl (hb hby d1_1) rfl ((if0 _ _).trans (teq (kz : p1 = (0 : Int32))).2) ?_
    show Steps p.tables e below (s₁.setTop (mkF m 4 #[.val (.int p1), .val (.int p2), .val (.int p3), .val (.int p4)] [])) _
    refine st5 _ ?_
    show Steps p.tables e below (T5.setTop (mkF m 6 #[.val (.int p1), .val (.int p2), .val (.int p3), .val (.int p4)] [(.ref rs5)])) _
    jvm_step X5.here [X5.here.top, hx, (hb hby d1_6), X5.method', Bd.returns, Value.isRef, FieldType.isReference]
    first | (intro acts; rw [hr _ acts rfl rfl rfl]) | rw [hr _ _ rfl rfl rfl]
    exact Steps.refl _
  · show Q1y Z p1 p2 p3 p4 h0 n0 _ T5.heap _
    rw [e5]
    exact ⟨rs5, rfl, N0, c7⟩
def f1w_x1n (p1 p2 p3 p4 w_CS : Int32) : Int32 := if p1 = 0 then f1z_x1n p1 p2 p3 p4 else f1_x1n p1 p2 p3 p4 w_CS
def f1w_x1c (p1 p2 p3 p4 w_CS : Int32) : Nat → Int32 := if p1 = 0 then f1z_x1c p1 p2 p3 p4 else f1_x1c p1 p2 p3 p4 w_CS
def Q1w (Z : State) (p1 : Int32) (p2 : Int32) (p3 : Int32) (p4 : Int32) (w_CS : Int32) (h0 : Heap) (n0 : Nat) (v : Option Value) (h : Heap) (L : List Loc) : Prop := ∃ (r0 : Addr) (r1 : Addr), v = some (.ref r0) ∧ Fr n0 L ∧ Keep h0 h [] ∧ Exa Z h r0 "java/lang/String" ∧ IAr Z h r1 .byte (f1w_x1n p1 p2 p3 p4 w_CS) (f1w_x1c p1 p2 p3 p4 w_CS) ∧ Fld Z h r0 "java/lang/String" "value" "[B" (.ref r1)
set_option maxRecDepth 65536 in
set_option maxHeartbeats 40000000 in
theorem rm1w (l : Launch) (Z : State) (a0 : Array Value) (hw : ∀ d ∈ tables_1, d.before a0 Z = true) (ws : List Jvm.Cond) (p1 : Int32) (p2 : Int32) (p3 : Int32) (p4 : Int32) (w_CS : Int32) (h0 : Heap) (n0 : Nat) (Z0 : n0 ≤ h0.size) (S_COMPACT_STRINGS : Sta Z h0 "java/lang/String" "COMPACT_STRINGS" "Z" (.int w_CS)) (hcs : ¬ w_CS = 0) (hbb : (0 ≤ p2.toInt ∧ p2.toInt < 256) ∧ (0 ≤ p3.toInt ∧ p3.toInt < 256) ∧ (0 ≤ p4.toInt ∧ p4.toInt < 256)) (hz0 : h0 = Z.heap) (hheld : Jvm.Lit.constHeld Z "com/example/titlepoint/titlepoint/FieldDefinitionIsAuthorizedAccessPointPinLaw" 7) (hcw : Jvm.Lit.compactW.before a0 Z = true) :
    MetFree l (⟨"com/example/titlepoint/titlepoint/FieldDefinitionIsAuthorizedAccessPointPinLaw", "drawn", "(ICCC)Ljava/lang/String;"⟩ : MethodName) (head1 (Jvm.Cond.code (⟨"com/example/titlepoint/titlepoint/FieldDefinitionIsAuthorizedAccessPointPinLaw", "drawn", "(ICCC)Ljava/lang/String;"⟩ : MethodName) method_2_code 4 (some (.object "java/lang/String")) :: ws) ({ frames := 4, cells := 3, slots := 20, locals := 66 } : Room)) (fun a U => a = #[(.int p1), (.int p2), (.int p3), (.int p4)] ∧ Z.Warmed39 U.vm ∧ U.heap = h0 ∧ U.vm.interned = Z.vm.interned) (fun _ _ _ _ _ => True) (fun _ U o U' => ∃ v L, o = .returned v ∧ Q1w Z p1 p2 p3 p4 w_CS h0 n0 v U'.heap L ∧ ReturnedEndW U o U' L ({ frames := 4, cells := 3, slots := 20, locals := 66 } : Room).cells ({ frames := 4, cells := 3, slots := 20, locals := 66 } : Room).slots) := by
  by_cases hp : p1 = 0
  · refine (rm1z l Z a0 hw ws p1 p2 p3 p4 h0 n0 Z0 hp hz0 hheld hcw).mono (fun _ _ h => h) (fun _ _ _ _ _ h => h) ?_
    intro a U o U' _ hq
    obtain ⟨v, L, h1, ⟨r0, r1, h2, h3, h4, h5, h6, h7⟩, h8⟩ := hq
    exact ⟨v, L, h1, ⟨r0, r1, h2, h3, h4, h5, by unfold f1w_x1n f1w_x1c; rw [if_pos hp, if_pos hp]; exact h6, h7⟩, h8⟩
  · refine (rm1 l Z a0 hw ws p1 p2 p3 p4 w_CS h0 n0 Z0 S_COMPACT_STRINGS hcs hp hbb).mono (fun _ _ h => ⟨h.1, h.2.1, h.2.2.1⟩) (fun _ _ _ _ _ h => h) ?_
    intro a U o U' _ hq
    obtain ⟨v, L, h1, ⟨r0, r1, h2, h3, h4, h5, h6, h7⟩, h8⟩ := hq
    exact ⟨v, L, h1, ⟨r0, r1, h2, h3, h4, h5, by unfold f1w_x1n f1w_x1c; rw [if_neg hp, if_neg hp]; exact h6, h7⟩, ReturnedEndW.of_narrow h8.1 h8.2.1 h8.2.2⟩
def Q1v (Z : State) (p1 : Int32) (p2 : Int32) (p3 : Int32) (p4 : Int32) (w_CS : Int32) (h0 : Heap) (n0 : Nat) (v : Option Value) (h : Heap) (L : List Loc) : Prop := ∃ (r0 : Addr), v = some (.ref r0) ∧ Fr n0 L ∧ Keep h0 h []
set_option maxRecDepth 65536 in
set_option maxHeartbeats 40000000 in
theorem rm1v (l : Launch) (Z : State) (a0 : Array Value) (hw : ∀ d ∈ tables_1, d.before a0 Z = true) (ws : List Jvm.Cond) (p1 : Int32) (p2 : Int32) (p3 : Int32) (p4 : Int32) (w_CS : Int32) (h0 : Heap) (n0 : Nat) (Z0 : n0 ≤ h0.size) (S_COMPACT_STRINGS : Sta Z h0 "java/lang/String" "COMPACT_STRINGS" "Z" (.int w_CS)) (hcs : ¬ w_CS = 0) (hbb : (0 ≤ p2.toInt ∧ p2.toInt < 256) ∧ (0 ≤ p3.toInt ∧ p3.toInt < 256) ∧ (0 ≤ p4.toInt ∧ p4.toInt < 256)) :
    MetFree l (⟨"com/example/titlepoint/titlepoint/FieldDefinitionIsAuthorizedAccessPointPinLaw", "drawn", "(ICCC)Ljava/lang/String;"⟩ : MethodName) (head1 (Jvm.Cond.code (⟨"com/example/titlepoint/titlepoint/FieldDefinitionIsAuthorizedAccessPointPinLaw", "drawn", "(ICCC)Ljava/lang/String;"⟩ : MethodName) method_2_code 4 (some (.object "java/lang/String")) :: ws) ({ frames := 4, cells := 3, slots := 20, locals := 66 } : Room)) (fun a U => a = #[(.int p1), (.int p2), (.int p3), (.int p4)] ∧ Z.Warmed39 U.vm ∧ U.heap = h0) (fun _ _ _ _ _ => True) (fun _ U o U' => ∃ v L, o = .returned v ∧ Q1v Z p1 p2 p3 p4 w_CS h0 n0 v U'.heap L ∧ ReturnedEndW U o U' L ({ frames := 4, cells := 3, slots := 20, locals := 66 } : Room).cells ({ frames := 4, cells := 3, slots := 20, locals := 66 } : Room).slots) := by
  by_cases hp : p1 = 0
  · refine (rm1y l Z a0 hw ws p1 p2 p3 p4 h0 n0 Z0 hp ).mono (fun _ _ h => h) (fun _ _ _ _ _ h => h) ?_
    intro a U o U' _ hq
    obtain ⟨v, L, h1, ⟨r0, h2, h3, h4⟩, h8⟩ := hq
    exact ⟨v, L, h1, ⟨r0, h2, h3, h4⟩, h8⟩
  · refine (rm1 l Z a0 hw ws p1 p2 p3 p4 w_CS h0 n0 Z0 S_COMPACT_STRINGS hcs hp hbb).mono (fun _ _ h => ⟨h.1, h.2.1, h.2.2⟩) (fun _ _ _ _ _ h => h) ?_
    intro a U o U' _ hq
    obtain ⟨v, L, h1, ⟨r0, r1, h2, h3, h4, h5, h6, h7⟩, h8⟩ := hq
    exact ⟨v, L, h1, ⟨r0, h2, h3, h4⟩, ReturnedEndW.of_narrow h8.1 h8.2.1 h8.2.2⟩
theorem pd_11 : parseMethodDescriptor "(ICCC)Ljava/lang/String;" = some ⟨[.int, .char, .char, .char], some (.object "java/lang/String")⟩ := by decide +kernel
theorem pd_12 : parseMethodDescriptor "(Ljava/lang/String;Ljava/lang/String;ZLjava/lang/String;Ljava/lang/String;Ljava/lang/String;Ljava/lang/String;Ljava/lang/String;Ljava/lang/String;Ljava/lang/String;Ljava/util/Map;Ljava/lang/String;Ljava/lang/String;Ljava/lang/String;)V" = some ⟨[(.object "java/lang/String"), (.object "java/lang/String"), .boolean, (.object "java/lang/String"), (.object "java/lang/String"), (.object "java/lang/String"), (.object "java/lang/String"), (.object "java/lang/String"), (.object "java/lang/String"), (.object "java/lang/String"), (.object "java/util/Map"), (.object "java/lang/String"), (.object "java/lang/String"), (.object "java/lang/String")], none⟩ := by decide +kernel
theorem ef_0 (m : MethodId) (x0 : Int32) (x1 : Int32) (x2 : Int32) (x3 : Int32) (x4 : Int32) : entryFrame m #[(.int x0), (.int x1), (.int x2), (.int x3), (.int x4)] maxLocals = mkF m 0 #[.val (.int x0), .val (.int x1), .val (.int x2), .val (.int x3), .val (.int x4), .unset, .unset, .unset, .unset, .unset, .unset, .unset, .unset, .unset, .unset, .unset] [] := by first | (simp [entryFrame, mkF, argsToLocals, Value.category, maxLocals]; done) | rfl
def f0_v5 (p1 : Int32) : Int32 := ((p1 &&& (2147483647 : Int32)) - ((p1 &&& (2147483647 : Int32)) / (4 : Int32)) * (4 : Int32))
def f0_v51 (p5 : Int32) : Int32 := ((p5 &&& (2147483647 : Int32)) - ((p5 &&& (2147483647 : Int32)) / (4 : Int32)) * (4 : Int32))
def f0_s0_81 (p1 : Int32) : Int32 := (if (((p1.toUInt32 >>> ((8 : Int32) &&& 31).toUInt32).toInt32) &&& (1 : Int32)) = (0 : Int32) then (0 : Int32) else (1 : Int32))
def f0_s0_129 (p1 : Int32) : Int32 := (if (f0_v5 p1) = (0 : Int32) then (0 : Int32) else (1 : Int32))
def f0_s0_145 (z_w_val : Int32) (c_w_val : Nat → Int32) : Int32 := (if (f5 z_w_val c_w_val) = (0 : Int32) then (1 : Int32) else (0 : Int32))
def f0 (p1 : Int32) (p2 : Int32) (p3 : Int32) (p4 : Int32) (p5 : Int32) (w_CS : Int32) (z_w_val : Int32) (c_w_val : Nat → Int32) : Int32 := (if (f5 (f1w_x1n (f0_v5 p1) ((p2 &&& (255 : Int32)).toUInt32.toUInt16.toUInt32.toInt32) ((p3 &&& (255 : Int32)).toUInt32.toUInt16.toUInt32.toInt32) ((p4 &&& (255 : Int32)).toUInt32.toUInt16.toUInt32.toInt32) w_CS) (f1w_x1c (f0_v5 p1) ((p2 &&& (255 : Int32)).toUInt32.toUInt16.toUInt32.toInt32) ((p3 &&& (255 : Int32)).toUInt32.toUInt16.toUInt32.toInt32) ((p4 &&& (255 : Int32)).toUInt32.toUInt16.toUInt32.toInt32) w_CS)) = (f0_s0_129 p1) then (if (f0_s0_145 z_w_val c_w_val) = (0 : Int32) then (0 : Int32) else (1 : Int32)) else (0 : Int32))
def Q0 (Z : State) (p1 : Int32) (p2 : Int32) (p3 : Int32) (p4 : Int32) (p5 : Int32) (w_CS : Int32) (w_LEG : Addr) (w_ent : Addr) (w_val : Addr) (z_w_val : Int32) (c_w_val : Nat → Int32) (h0 : Heap) (n0 : Nat) (v : Option Value) (h : Heap) (L : List Loc) : Prop := v = some (.int (f0 p1 p2 p3 p4 p5 w_CS z_w_val c_w_val)) ∧ Fr n0 L ∧ True
set_option maxRecDepth 65536 in
set_option maxHeartbeats 40000000 in
theorem rm0 (l : Launch) (Z : State) (a0 : Array Value) (hw : ∀ d ∈ tables_1, d.before a0 Z = true) (ws : List Jvm.Cond) (p1 : Int32) (p2 : Int32) (p3 : Int32) (p4 : Int32) (p5 : Int32) (w_CS : Int32) (w_LEG : Addr) (w_ent : Addr) (w_val : Addr) (z_w_val : Int32) (c_w_val : Nat → Int32) (h0 : Heap) (n0 : Nat) (Z0 : n0 ≤ h0.size) (S_COMPACT_STRINGS : Sta Z h0 "java/lang/String" "COMPACT_STRINGS" "Z" (.int w_CS)) (hcs : ¬ w_CS = 0) (hz0 : h0 = Z.heap) (hheld : Jvm.Lit.constHeld Z "com/example/titlepoint/titlepoint/FieldDefinitionIsAuthorizedAccessPointPinLaw" 7) (hcw : Jvm.Lit.compactW.before a0 Z = true) (S_LEGACY_TITLE : Sta Z h0 "com/example/titlepoint/titlepoint/FieldDefinition" "LEGACY_TITLE" "Lcom/example/titlepoint/titlepoint/FieldDefinition;" (.ref w_LEG)) (E_w_LEG : Exa Z h0 w_LEG "com/example/titlepoint/titlepoint/FieldDefinition") (F_entity_w_LEG : Fld Z h0 w_LEG "com/example/titlepoint/titlepoint/FieldDefinition" "entity" "Ljava/lang/String;" (.ref w_ent)) (E_w_ent : Exa Z h0 w_ent "java/lang/String") (F_value_w_ent : Fld Z h0 w_ent "java/lang/String" "value" "[B" (.ref w_val)) (V_w_val : IAr Z h0 w_val .byte z_w_val c_w_val) :
    MetFree l x (head1 (Jvm.Cond.code x code maxLocals ret :: ws) room_1) (fun a U => a = #[(.int p1), (.int p2), (.int p3), (.int p4), (.int p5)] ∧ Z.Warmed39 U.vm ∧ U.heap = h0 ∧ U.vm.interned = Z.vm.interned) (fun _ _ _ _ _ => True) (fun _ U o U' => ∃ v L, o = .returned v ∧ Q0 Z p1 p2 p3 p4 p5 w_CS w_LEG w_ent w_val z_w_val c_w_val h0 n0 v U'.heap L ∧ ReturnedEndW U o U' L room_1.cells room_1.slots) := by
  refine MetFree.of_bodySF (plainFor_of_name pn_3) hisR ?_
  intro p e s m args below meth c s₁ Bd hml0 hP hK
  obtain ⟨rfl, hZ, hh, hint⟩ := hP
  have hx := Bd.exec
  have hby := Bd.bytes
  have hml : c.maxLocals = 16 := hml0
  have hown : s.vm.findClass "com/example/titlepoint/titlepoint/FieldDefinitionIsAuthorizedAccessPointPinLaw" = some m.cls := findClass_of_methodNamed Bd.named
  have hnm := (name_of_methodNamed Bd.named Bd.method).1
  have X0 : Stand p l e room_1 s m #[(.int p1), (.int p2), (.int p3), (.int p4), (.int p5)] below meth c s₁ [] 0 0 := Stand.of_body Bd
  have e0 : s₁.heap = h0 := by rw [← hh, Bd.state]; rfl
  have N0 := Fr.nil n0
  have pre0 : ∀ t, Steps p.tables e below (s₁.setTop (mkF m 0 #[.val (.int p1), .val (.int p2), .val (.int p3), .val (.int p4), .val (.int p5), .unset, .unset, .unset, .unset, .unset, .unset, .unset, .unset, .unset, .unset, .unset] [])) t → Steps p.tables e below (s₁.setTop (entryFrame m #[(.int p1), (.int p2), (.int p3), (.int p4), (.int p5)] maxLocals)) t := fun t k => castTop (ef_0 m p1 p2 p3 p4 p5) k
  have hZ_0 := hZ
  have hown_0 := hown
  obtain ⟨_, vm6, ⟨T6, L6, k6, n6⟩, -, X6, S6, gr6, ⟨Lc6, hQ6, l6, y6, z6⟩, st6⟩ := callSS X0 hx (y := (⟨"com/example/titlepoint/titlepoint/FieldDefinitionIsAuthorizedAccessPointPinLaw", "drawn", "(ICCC)Ljava/lang/String;"⟩ : MethodName)) hown (mvT hZ (hw _ (List.mem_of_getElem? (i := 1) rfl))) (mvT hZ (hw _ (List.mem_of_getElem? (i := 2) rfl))) (mvT hZ (hw _ (List.mem_of_getElem? (i := 3) rfl))) (mvT hZ (hw _ (List.mem_of_getElem? (i := 4) rfl))) (by decide) (own_backW (W := 0) (rm1w l Z a0 hw [] (f0_v5 p1) ((p2 &&& (255 : Int32)).toUInt32.toUInt16.toUInt32.toInt32) ((p3 &&& (255 : Int32)).toUInt32.toUInt16.toUInt32.toInt32) ((p4 &&& (255 : Int32)).toUInt32.toUInt16.toUInt32.toInt32) w_CS h0 n0 Z0 S_COMPACT_STRINGS hcs ⟨own_ch _, own_ch _, own_ch _⟩ hz0 hheld hcw) hint hZ (hw _ (List.mem_of_getElem? (i := 4) rfl)) (hw _ (List.mem_of_getElem? (i := 3) rfl)) (by decide) (by decide)) (g := (mkF m 40 #[.val (.int p1), .val (.int p2), .val (.int p3), .val (.int p4), .val (.int p5), .val (.int (f0_v5 p1)), .val (.int ((p2 &&& (255 : Int32)).toUInt32.toUInt16.toUInt32.toInt32)), .val (.int ((p3 &&& (255 : Int32)).toUInt32.toUInt16.toUInt32.toInt32)), .val (.int ((p4 &&& (255 : Int32)).toUInt32.toUInt16.toUInt32.toInt32)), .unset, .unset, .unset, .unset, .unset, .unset, .unset] [(.int ((p4 &&& (255 : Int32)).toUInt32.toUInt16.toUInt32.toInt32)), (.int ((p3 &&& (255 : Int32)).toUInt32.toUInt16.toUInt32.toInt32)), (.int ((p2 &&& (255 : Int32)).toUInt32.toUInt16.toUInt32.toInt32)), (.int (f0_v5 p1))])) rfl (by rw [hml]; rfl) (argsL := [(.int (f0_v5 p1)), (.int ((p2 &&& (255 : Int32)).toUInt32.toUInt16.toUInt32.toInt32)), (.int ((p3 &&& (255 : Int32)).toUInt32.toUInt16.toUInt32.toInt32)), (.int ((p4 &&& (255 : Int32)).toUInt32.toUInt16.toUInt32.toInt32))]) (rest := []) (lenOf pd_11 rfl) rfl (by show 2 * 0 + _ ≤ _; exact Nat.le_of_eq rfl) (hb hby at_40) (fun _ _ => ⟨rfl, e0, (by decide : 0 + 3 ≤ _), (by decide : 0 + 20 ≤ _)⟩)
  dsimp only [Pt.U, Pt.locs, Pt.cells, Pt.slots] at X6 l6 y6 z6 st6 hQ6 S6 gr6
  subst l6 y6 z6
  have hZ : Z.Warmed39 (s.setVm T6.vm).vm := State.Warmed39.trans (t := s) hZ S6.1
  have hown : (s.setVm T6.vm).vm.findClass "com/example/titlepoint/titlepoint/FieldDefinitionIsAuthorizedAccessPointPinLaw" = some m.cls := by rw [show (s.setVm T6.vm).vm = T6.vm from rfl, S6.1.alike.findClass]; exact hown
  have hZ_6 := hZ
  have hown_6 := hown
  have X6 : Stand p l e room_1 (s.setVm T6.vm) m #[(.int p1), (.int p2), (.int p3), (.int p4), (.int p5)] below meth c T6 _ _ _ := X6
  have S6 : s.Since T6.vm T6.heap.size := S6
  obtain ⟨r6_0, r6_1, rfl, N6q, K6, ve6_0, va6_1, vf6_1⟩ := hQ6
  have N6 := Fr.app N0 N6q
  have c7 : n0 ≤ T6.heap.size := Nat.le_trans Z0 K6.1
  have c8 : Sta Z T6.heap "java/lang/String" "COMPACT_STRINGS" "Z" (.int w_CS) := own_staK0 S_COMPACT_STRINGS K6
  have c9 : Sta Z T6.heap "com/example/titlepoint/titlepoint/FieldDefinition" "LEGACY_TITLE" "Lcom/example/titlepoint/titlepoint/FieldDefinition;" (.ref w_LEG) := own_staK0 S_LEGACY_TITLE K6
  have c10 : Exa Z T6.heap w_LEG "com/example/titlepoint/titlepoint/FieldDefinition" := E_w_LEG.keep K6
  have c11 : Fld Z T6.heap w_LEG "com/example/titlepoint/titlepoint/FieldDefinition" "entity" "Ljava/lang/String;" (.ref w_ent) := F_entity_w_LEG.keep K6 nin0
  have c12 : Exa Z T6.heap w_ent "java/lang/String" := E_w_ent.keep K6
  have c13 : Fld Z T6.heap w_ent "java/lang/String" "value" "[B" (.ref w_val) := F_value_w_ent.keep K6 nin0
  have c14 : IAr Z T6.heap w_val .byte z_w_val c_w_val := V_w_val.keep K6 nin0
  obtain ⟨_, vm15, ⟨T15, L15, k15, n15⟩, -, X15, S15, gr15, ⟨Lc15, hQ15, l15, y15, z15⟩, st15⟩ := callSS X6 hx (y := (⟨"com/example/titlepoint/titlepoint/FieldDefinitionIsAuthorizedAccessPointPinLaw", "drawn", "(ICCC)Ljava/lang/String;"⟩ : MethodName)) hown (mvT hZ (hw _ (List.mem_of_getElem? (i := 1) rfl))) (mvT hZ (hw _ (List.mem_of_getElem? (i := 2) rfl))) (mvT hZ (hw _ (List.mem_of_getElem? (i := 3) rfl))) (mvT hZ (hw _ (List.mem_of_getElem? (i := 4) rfl))) (by decide) (backOfS (W := 0) (rm1v l Z a0 hw [] (f0_v51 p5) ((p4 &&& (255 : Int32)).toUInt32.toUInt16.toUInt32.toInt32) ((p3 &&& (255 : Int32)).toUInt32.toUInt16.toUInt32.toInt32) ((p2 &&& (255 : Int32)).toUInt32.toUInt16.toUInt32.toInt32) w_CS T6.heap n0 c7 c8 hcs ⟨own_ch _, own_ch _, own_ch _⟩) hZ (hw _ (List.mem_of_getElem? (i := 4) rfl)) (hw _ (List.mem_of_getElem? (i := 3) rfl)) (by decide) (by decide)) (g := (mkF m 62 #[.val (.int p1), .val (.int p2), .val (.int p3), .val (.int p4), .val (.int p5), .val (.int (f0_v5 p1)), .val (.int ((p2 &&& (255 : Int32)).toUInt32.toUInt16.toUInt32.toInt32)), .val (.int ((p3 &&& (255 : Int32)).toUInt32.toUInt16.toUInt32.toInt32)), .val (.int ((p4 &&& (255 : Int32)).toUInt32.toUInt16.toUInt32.toInt32)), .val (.ref r6_0), .val (.int (f0_v51 p5)), .unset, .unset, .unset, .unset, .unset] [(.int ((p2 &&& (255 : Int32)).toUInt32.toUInt16.toUInt32.toInt32)), (.int ((p3 &&& (255 : Int32)).toUInt32.toUInt16.toUInt32.toInt32)), (.int ((p4 &&& (255 : Int32)).toUInt32.toUInt16.toUInt32.toInt32)), (.int (f0_v51 p5))])) rfl (by rw [hml]; rfl) (argsL := [(.int (f0_v51 p5)), (.int ((p4 &&& (255 : Int32)).toUInt32.toUInt16.toUInt32.toInt32)), (.int ((p3 &&& (255 : Int32)).toUInt32.toUInt16.toUInt32.toInt32)), (.int ((p2 &&& (255 : Int32)).toUInt32.toUInt16.toUInt32.toInt32))]) (rest := []) (lenOf pd_11 rfl) rfl (by show 2 * 0 + _ ≤ _; exact Nat.le_of_eq rfl) (hb hby at_62) (fun _ _ => ⟨rfl, rfl, (by decide : 3 + 3 ≤ _), (by decide : 20 + 20 ≤ _)⟩)
  dsimp only [Pt.U, Pt.locs, Pt.cells, Pt.slots] at X15 l15 y15 z15 st15 hQ15 S15 gr15
  subst l15 y15 z15
  have hZ : Z.Warmed39 (s.setVm T15.vm).vm := State.Warmed39.trans (t := (s.setVm T6.vm)) hZ S15.1
  have hown : (s.setVm T15.vm).vm.findClass "com/example/titlepoint/titlepoint/FieldDefinitionIsAuthorizedAccessPointPinLaw" = some m.cls := by rw [show (s.setVm T15.vm).vm = T15.vm from rfl, S15.1.alike.findClass]; exact hown
  have hZ_15 := hZ
  have hown_15 := hown
  have X15 : Stand p l e room_1 (s.setVm T15.vm) m #[(.int p1), (.int p2), (.int p3), (.int p4), (.int p5)] below meth c T15 _ _ _ := X15
  have S15 : s.Since T15.vm T15.heap.size := S6.trans S15 (Nat.le_trans (Nat.le_refl _) gr15)
  obtain ⟨r15_0, rfl, N15q, K15⟩ := hQ15
  have N15 := Fr.app N6 N15q
  have c16 : n0 ≤ T15.heap.size := Nat.le_trans c7 K15.1
  have c17 : Sta Z T15.heap "java/lang/String" "COMPACT_STRINGS" "Z" (.int w_CS) := own_staK0 c8 K15
  have c18 : Sta Z T15.heap "com/example/titlepoint/titlepoint/FieldDefinition" "LEGACY_TITLE" "Lcom/example/titlepoint/titlepoint/FieldDefinition;" (.ref w_LEG) := own_staK0 c9 K15
  have c19 : Exa Z T15.heap w_LEG "com/example/titlepoint/titlepoint/FieldDefinition" := c10.keep K15
  have c20 : Fld Z T15.heap w_LEG "com/example/titlepoint/titlepoint/FieldDefinition" "entity" "Ljava/lang/String;" (.ref w_ent) := c11.keep K15 nin0
  have c21 : Exa Z T15.heap w_ent "java/lang/String" := c12.keep K15
  have c22 : Fld Z T15.heap w_ent "java/lang/String" "value" "[B" (.ref w_val) := c13.keep K15 nin0
  have c23 : IAr Z T15.heap w_val .byte z_w_val c_w_val := c14.keep K15 nin0
  have c24 : Exa Z T15.heap r6_0 "java/lang/String" := ve6_0.keep K15
  have c25 : IAr Z T15.heap r6_1 .byte (f1w_x1n (f0_v5 p1) ((p2 &&& (255 : Int32)).toUInt32.toUInt16.toUInt32.toInt32) ((p3 &&& (255 : Int32)).toUInt32.toUInt16.toUInt32.toInt32) ((p4 &&& (255 : Int32)).toUInt32.toUInt16.toUInt32.toInt32) w_CS) (f1w_x1c (f0_v5 p1) ((p2 &&& (255 : Int32)).toUInt32.toUInt16.toUInt32.toInt32) ((p3 &&& (255 : Int32)).toUInt32.toUInt16.toUInt32.toInt32) ((p4 &&& (255 : Int32)).toUInt32.toUInt16.toUInt32.toInt32) w_CS) := va6_1.keep K15 nin0
  have c26 : Fld Z T15.heap r6_0 "java/lang/String" "value" "[B" (.ref r6_1) := vf6_1.keep K15 nin0
  have c27 : T6.heap.size ≤ T15.heap.size := Nat.le_trans (Nat.le_refl _) K15.1
  have pre1 : ∀ t, Steps p.tables e below (T15.setTop (mkF m 73 #[.val (.int p1), .val (.int p2), .val (.int p3), .val (.int p4), .val (.int p5), .val (.int (f0_v5 p1)), .val (.int ((p2 &&& (255 : Int32)).toUInt32.toUInt16.toUInt32.toInt32)), .val (.int ((p3 &&& (255 : Int32)).toUInt32.toUInt16.toUInt32.toInt32)), .val (.int ((p4 &&& (255 : Int32)).toUInt32.toUInt16.toUInt32.toInt32)), .val (.ref r6_0), .val (.int (f0_v51 p5)), .val (.ref r15_0), .unset, .unset, .unset, .unset] [(.int (((p1.toUInt32 >>> ((8 : Int32) &&& 31).toUInt32).toInt32) &&& (1 : Int32)))])) t → Steps p.tables e below (s₁.setTop (entryFrame m #[(.int p1), (.int p2), (.int p3), (.int p4), (.int p5)] maxLocals)) t := by
    intro t k
    refine pre0 t ?_
    show Steps p.tables e below (s₁.setTop (mkF m 0 #[.val (.int p1), .val (.int p2), .val (.int p3), .val (.int p4), .val (.int p5), .unset, .unset, .unset, .unset, .unset, .unset, .unset, .unset, .unset, .unset, .unset] [])) _
    refine XS.iloadN X0.here hx rfl (hb hby at_0) rfl ?_
    show Steps p.tables e below (s₁.setTop (mkF m 1 #[.val (.int p1), .val (.int p2), .val (.int p3), .val (.int p4), .val (.int p5), .unset, .unset, .unset, .unset, .unset, .unset, .unset, .unset, .unset, .unset, .unset] [(.int p1)])) _
    refine X0.ldcInt hx hown_0 (mvT hZ_0 (hw _ (List.mem_of_getElem? (i := 0) rfl))) (g := (mkF m 1 #[.val (.int p1), .val (.int p2), .val (.int p3), .val (.int p4), .val (.int p5), .unset, .unset, .unset, .unset, .unset, .unset, .unset, .unset, .unset, .unset, .unset] [(.int p1)])) rfl (hb hby at_1) _ ?_
    show Steps p.tables e below (s₁.setTop (mkF m 3 #[.val (.int p1), .val (.int p2), .val (.int p3), .val (.int p4), .val (.int p5), .unset, .unset, .unset, .unset, .unset, .unset, .unset, .unset, .unset, .unset, .unset] [(.int (2147483647 : Int32)), (.int p1)])) _
    refine XS.iand X0.here hx rfl (hb hby at_3) rfl ?_
    show Steps p.tables e below (s₁.setTop (mkF m 4 #[.val (.int p1), .val (.int p2), .val (.int p3), .val (.int p4), .val (.int p5), .unset, .unset, .unset, .unset, .unset, .unset, .unset, .unset, .unset, .unset, .unset] [(.int (p1 &&& (2147483647 : Int32)))])) _
    refine XS.iconst X0.here hx rfl (hb hby at_4) ?_
    show Steps p.tables e below (s₁.setTop (mkF m 5 #[.val (.int p1), .val (.int p2), .val (.int p3), .val (.int p4), .val (.int p5), .unset, .unset, .unset, .unset, .unset, .unset, .unset, .unset, .unset, .unset, .unset] [(.int (4 : Int32)), (.int (p1 &&& (2147483647 : Int32)))])) _
    refine XS.irem X0.here hx rfl (hb hby at_5) rfl (by decide) ?_
    show Steps p.tables e below (s₁.setTop (mkF m 6 #[.val (.int p1), .val (.int p2), .val (.int p3), .val (.int p4), .val (.int p5), .unset, .unset, .unset, .unset, .unset, .unset, .unset, .unset, .unset, .unset, .unset] [(.int (f0_v5 p1))])) _
    refine XS.istore X0.here hx rfl (hb hby at_6) rfl (l' := #[.val (.int p1), .val (.int p2), .val (.int p3), .val (.int p4), .val (.int p5), .val (.int (f0_v5 p1)), .unset, .unset, .unset, .unset, .unset, .unset, .unset, .unset, .unset, .unset]) rfl ?_
    show Steps p.tables e below (s₁.setTop (mkF m 8 #[.val (.int p1), .val (.int p2), .val (.int p3), .val (.int p4), .val (.int p5), .val (.int (f0_v5 p1)), .unset, .unset, .unset, .unset, .unset, .unset, .unset, .unset, .unset, .unset] [])) _
    refine XS.iloadN X0.here hx rfl (hb hby at_8) rfl ?_
    show Steps p.tables e below (s₁.setTop (mkF m 9 #[.val (.int p1), .val (.int p2), .val (.int p3), .val (.int p4), .val (.int p5), .val (.int (f0_v5 p1)), .unset, .unset, .unset, .unset, .unset, .unset, .unset, .unset, .unset, .unset] [(.int p2)])) _
    refine XS.sipush X0.here hx rfl (hb hby at_9) ?_
    show Steps p.tables e below (s₁.setTop (mkF m 12 #[.val (.int p1), .val (.int p2), .val (.int p3), .val (.int p4), .val (.int p5), .val (.int (f0_v5 p1)), .unset, .unset, .unset, .unset, .unset, .unset, .unset, .unset, .unset, .unset] [(.int (255 : Int32)), (.int p2)])) _
    refine XS.iand X0.here hx rfl (hb hby at_12) rfl ?_
    show Steps p.tables e below (s₁.setTop (mkF m 13 #[.val (.int p1), .val (.int p2), .val (.int p3), .val (.int p4), .val (.int p5), .val (.int (f0_v5 p1)), .unset, .unset, .unset, .unset, .unset, .unset, .unset, .unset, .unset, .unset] [(.int (p2 &&& (255 : Int32)))])) _
    refine XS.i2c X0.here hx rfl (hb hby at_13) rfl ?_
    show Steps p.tables e below (s₁.setTop (mkF m 14 #[.val (.int p1), .val (.int p2), .val (.int p3), .val (.int p4), .val (.int p5), .val (.int (f0_v5 p1)), .unset, .unset, .unset, .unset, .unset, .unset, .unset, .unset, .unset, .unset] [(.int ((p2 &&& (255 : Int32)).toUInt32.toUInt16.toUInt32.toInt32))])) _
    refine XS.istore X0.here hx rfl (hb hby at_14) rfl (l' := #[.val (.int p1), .val (.int p2), .val (.int p3), .val (.int p4), .val (.int p5), .val (.int (f0_v5 p1)), .val (.int ((p2 &&& (255 : Int32)).toUInt32.toUInt16.toUInt32.toInt32)), .unset, .unset, .unset, .unset, .unset, .unset, .unset, .unset, .unset]) rfl ?_
    show Steps p.tables e below (s₁.setTop (mkF m 16 #[.val (.int p1), .val (.int p2), .val (.int p3), .val (.int p4), .val (.int p5), .val (.int (f0_v5 p1)), .val (.int ((p2 &&& (255 : Int32)).toUInt32.toUInt16.toUInt32.toInt32)), .unset, .unset, .unset, .unset, .unset, .unset, .unset, .unset, .unset] [])) _
    refine XS.iloadN X0.here hx rfl (hb hby at_16) rfl ?_
    show Steps p.tables e below (s₁.setTop (mkF m 17 #[.val (.int p1), .val (.int p2), .val (.int p3), .val (.int p4), .val (.int p5), .val (.int (f0_v5 p1)), .val (.int ((p2 &&& (255 : Int32)).toUInt32.toUInt16.toUInt32.toInt32)), .unset, .unset, .unset, .unset, .unset, .unset, .unset, .unset, .unset] [(.int p3)])) _
    refine XS.sipush X0.here hx rfl (hb hby at_17) ?_
    show Steps p.tables e below (s₁.setTop (mkF m 20 #[.val (.int p1), .val (.int p2), .val (.int p3), .val (.int p4), .val (.int p5), .val (.int (f0_v5 p1)), .val (.int ((p2 &&& (255 : Int32)).toUInt32.toUInt16.toUInt32.toInt32)), .unset, .unset, .unset, .unset, .unset, .unset, .unset, .unset, .unset] [(.int (255 : Int32)), (.int p3)])) _
    refine XS.iand X0.here hx rfl (hb hby at_20) rfl ?_
    show Steps p.tables e below (s₁.setTop (mkF m 21 #[.val (.int p1), .val (.int p2), .val (.int p3), .val (.int p4), .val (.int p5), .val (.int (f0_v5 p1)), .val (.int ((p2 &&& (255 : Int32)).toUInt32.toUInt16.toUInt32.toInt32)), .unset, .unset, .unset, .unset, .unset, .unset, .unset, .unset, .unset] [(.int (p3 &&& (255 : Int32)))])) _
    refine XS.i2c X0.here hx rfl (hb hby at_21) rfl ?_
    show Steps p.tables e below (s₁.setTop (mkF m 22 #[.val (.int p1), .val (.int p2), .val (.int p3), .val (.int p4), .val (.int p5), .val (.int (f0_v5 p1)), .val (.int ((p2 &&& (255 : Int32)).toUInt32.toUInt16.toUInt32.toInt32)), .unset, .unset, .unset, .unset, .unset, .unset, .unset, .unset, .unset] [(.int ((p3 &&& (255 : Int32)).toUInt32.toUInt16.toUInt32.toInt32))])) _
    refine XS.istore X0.here hx rfl (hb hby at_22) rfl (l' := #[.val (.int p1), .val (.int p2), .val (.int p3), .val (.int p4), .val (.int p5), .val (.int (f0_v5 p1)), .val (.int ((p2 &&& (255 : Int32)).toUInt32.toUInt16.toUInt32.toInt32)), .val (.int ((p3 &&& (255 : Int32)).toUInt32.toUInt16.toUInt32.toInt32)), .unset, .unset, .unset, .unset, .unset, .unset, .unset, .unset]) rfl ?_
    show Steps p.tables e below (s₁.setTop (mkF m 24 #[.val (.int p1), .val (.int p2), .val (.int p3), .val (.int p4), .val (.int p5), .val (.int (f0_v5 p1)), .val (.int ((p2 &&& (255 : Int32)).toUInt32.toUInt16.toUInt32.toInt32)), .val (.int ((p3 &&& (255 : Int32)).toUInt32.toUInt16.toUInt32.toInt32)), .unset, .unset, .unset, .unset, .unset, .unset, .unset, .unset] [])) _
    refine XS.iloadN X0.here hx rfl (hb hby at_24) rfl ?_
    show Steps p.tables e below (s₁.setTop (mkF m 25 #[.val (.int p1), .val (.int p2), .val (.int p3), .val (.int p4), .val (.int p5), .val (.int (f0_v5 p1)), .val (.int ((p2 &&& (255 : Int32)).toUInt32.toUInt16.toUInt32.toInt32)), .val (.int ((p3 &&& (255 : Int32)).toUInt32.toUInt16.toUInt32.toInt32)), .unset, .unset, .unset, .unset, .unset, .unset, .unset, .unset] [(.int p4)])) _
    refine XS.sipush X0.here hx rfl (hb hby at_25) ?_
    show Steps p.tables e below (s₁.setTop (mkF m 28 #[.val (.int p1), .val (.int p2), .val (.int p3), .val (.int p4), .val (.int p5), .val (.int (f0_v5 p1)), .val (.int ((p2 &&& (255 : Int32)).toUInt32.toUInt16.toUInt32.toInt32)), .val (.int ((p3 &&& (255 : Int32)).toUInt32.toUInt16.toUInt32.toInt32)), .unset, .unset, .unset, .unset, .unset, .unset, .unset, .unset] [(.int (255 : Int32)), (.int p4)])) _
    refine XS.iand X0.here hx rfl (hb hby at_28) rfl ?_
    show Steps p.tables e below (s₁.setTop (mkF m 29 #[.val (.int p1), .val (.int p2), .val (.int p3), .val (.int p4), .val (.int p5), .val (.int (f0_v5 p1)), .val (.int ((p2 &&& (255 : Int32)).toUInt32.toUInt16.toUInt32.toInt32)), .val (.int ((p3 &&& (255 : Int32)).toUInt32.toUInt16.toUInt32.toInt32)), .unset, .unset, .unset, .unset, .unset, .unset, .unset, .unset] [(.int (p4 &&& (255 : Int32)))])) _
    refine XS.i2c X0.here hx rfl (hb hby at_29) rfl ?_
    show Steps p.tables e below (s₁.setTop (mkF m 30 #[.val (.int p1), .val (.int p2), .val (.int p3), .val (.int p4), .val (.int p5), .val (.int (f0_v5 p1)), .val (.int ((p2 &&& (255 : Int32)).toUInt32.toUInt16.toUInt32.toInt32)), .val (.int ((p3 &&& (255 : Int32)).toUInt32.toUInt16.toUInt32.toInt32)), .unset, .unset, .unset, .unset, .unset, .unset, .unset, .unset] [(.int ((p4 &&& (255 : Int32)).toUInt32.toUInt16.toUInt32.toInt32))])) _
    refine XS.istore X0.here hx rfl (hb hby at_30) rfl (l' := #[.val (.int p1), .val (.int p2), .val (.int p3), .val (.int p4), .val (.int p5), .val (.int (f0_v5 p1)), .val (.int ((p2 &&& (255 : Int32)).toUInt32.toUInt16.toUInt32.toInt32)), .val (.int ((p3 &&& (255 : Int32)).toUInt32.toUInt16.toUInt32.toInt32)), .val (.int ((p4 &&& (255 : Int32)).toUInt32.toUInt16.toUInt32.toInt32)), .unset, .unset, .unset, .unset, .unset, .unset, .unset]) rfl ?_
    show Steps p.tables e below (s₁.setTop (mkF m 32 #[.val (.int p1), .val (.int p2), .val (.int p3), .val (.int p4), .val (.int p5), .val (.int (f0_v5 p1)), .val (.int ((p2 &&& (255 : Int32)).toUInt32.toUInt16.toUInt32.toInt32)), .val (.int ((p3 &&& (255 : Int32)).toUInt32.toUInt16.toUInt32.toInt32)), .val (.int ((p4 &&& (255 : Int32)).toUInt32.toUInt16.toUInt32.toInt32)), .unset, .unset, .unset, .unset, .unset, .unset, .unset] [])) _
    refine XS.iload X0.here hx rfl (hb hby at_32) rfl ?_
    show Steps p.tables e below (s₁.setTop (mkF m 34 #[.val (.int p1), .val (.int p2), .val (.int p3), .val (.int p4), .val (.int p5), .val (.int (f0_v5 p1)), .val (.int ((p2 &&& (255 : Int32)).toUInt32.toUInt16.toUInt32.toInt32)), .val (.int ((p3 &&& (255 : Int32)).toUInt32.toUInt16.toUInt32.toInt32)), .val (.int ((p4 &&& (255 : Int32)).toUInt32.toUInt16.toUInt32.toInt32)), .unset, .unset, .unset, .unset, .unset, .unset, .unset] [(.int (f0_v5 p1))])) _
    refine XS.iload X0.here hx rfl (hb hby at_34) rfl ?_
    show Steps p.tables e below (s₁.setTop (mkF m 36 #[.val (.int p1), .val (.int p2), .val (.int p3), .val (.int p4), .val (.int p5), .val (.int (f0_v5 p1)), .val (.int ((p2 &&& (255 : Int32)).toUInt32.toUInt16.toUInt32.toInt32)), .val (.int ((p3 &&& (255 : Int32)).toUInt32.toUInt16.toUInt32.toInt32)), .val (.int ((p4 &&& (255 : Int32)).toUInt32.toUInt16.toUInt32.toInt32)), .unset, .unset, .unset, .unset, .unset, .unset, .unset] [(.int ((p2 &&& (255 : Int32)).toUInt32.toUInt16.toUInt32.toInt32)), (.int (f0_v5 p1))])) _
    refine XS.iload X0.here hx rfl (hb hby at_36) rfl ?_
    show Steps p.tables e below (s₁.setTop (mkF m 38 #[.val (.int p1), .val (.int p2), .val (.int p3), .val (.int p4), .val (.int p5), .val (.int (f0_v5 p1)), .val (.int ((p2 &&& (255 : Int32)).toUInt32.toUInt16.toUInt32.toInt32)), .val (.int ((p3 &&& (255 : Int32)).toUInt32.toUInt16.toUInt32.toInt32)), .val (.int ((p4 &&& (255 : Int32)).toUInt32.toUInt16.toUInt32.toInt32)), .unset, .unset, .unset, .unset, .unset, .unset, .unset] [(.int ((p3 &&& (255 : Int32)).toUInt32.toUInt16.toUInt32.toInt32)), (.int ((p2 &&& (255 : Int32)).toUInt32.toUInt16.toUInt32.toInt32)), (.int (f0_v5 p1))])) _
    refine XS.iload X0.here hx rfl (hb hby at_38) rfl ?_
    show Steps p.tables e below (s₁.setTop (mkF m 40 #[.val (.int p1), .val (.int p2), .val (.int p3), .val (.int p4), .val (.int p5), .val (.int (f0_v5 p1)), .val (.int ((p2 &&& (255 : Int32)).toUInt32.toUInt16.toUInt32.toInt32)), .val (.int ((p3 &&& (255 : Int32)).toUInt32.toUInt16.toUInt32.toInt32)), .val (.int ((p4 &&& (255 : Int32)).toUInt32.toUInt16.toUInt32.toInt32)), .unset, .unset, .unset, .unset, .unset, .unset, .unset] [(.int ((p4 &&& (255 : Int32)).toUInt32.toUInt16.toUInt32.toInt32)), (.int ((p3 &&& (255 : Int32)).toUInt32.toUInt16.toUInt32.toInt32)), (.int ((p2 &&& (255 : Int32)).toUInt32.toUInt16.toUInt32.toInt32)), (.int (f0_v5 p1))])) _
    refine st6.trans ?_
    show Steps p.tables e below (T6.setTop (mkF m 43 #[.val (.int p1), .val (.int p2), .val (.int p3), .val (.int p4), .val (.int p5), .val (.int (f0_v5 p1)), .val (.int ((p2 &&& (255 : Int32)).toUInt32.toUInt16.toUInt32.toInt32)), .val (.int ((p3 &&& (255 : Int32)).toUInt32.toUInt16.toUInt32.toInt32)), .val (.int ((p4 &&& (255 : Int32)).toUInt32.toUInt16.toUInt32.toInt32)), .unset, .unset, .unset, .unset, .unset, .unset, .unset] [(.ref r6_0)])) _
    refine XS.astore X6.here hx rfl (hb hby at_43) rfl rfl (l' := #[.val (.int p1), .val (.int p2), .val (.int p3), .val (.int p4), .val (.int p5), .val (.int (f0_v5 p1)), .val (.int ((p2 &&& (255 : Int32)).toUInt32.toUInt16.toUInt32.toInt32)), .val (.int ((p3 &&& (255 : Int32)).toUInt32.toUInt16.toUInt32.toInt32)), .val (.int ((p4 &&& (255 : Int32)).toUInt32.toUInt16.toUInt32.toInt32)), .val (.ref r6_0), .unset, .unset, .unset, .unset, .unset, .unset]) rfl ?_
    show Steps p.tables e below (T6.setTop (mkF m 45 #[.val (.int p1), .val (.int p2), .val (.int p3), .val (.int p4), .val (.int p5), .val (.int (f0_v5 p1)), .val (.int ((p2 &&& (255 : Int32)).toUInt32.toUInt16.toUInt32.toInt32)), .val (.int ((p3 &&& (255 : Int32)).toUInt32.toUInt16.toUInt32.toInt32)), .val (.int ((p4 &&& (255 : Int32)).toUInt32.toUInt16.toUInt32.toInt32)), .val (.ref r6_0), .unset, .unset, .unset, .unset, .unset, .unset] [])) _
    refine XS.iload X6.here hx rfl (hb hby at_45) rfl ?_
    show Steps p.tables e below (T6.setTop (mkF m 47 #[.val (.int p1), .val (.int p2), .val (.int p3), .val (.int p4), .val (.int p5), .val (.int (f0_v5 p1)), .val (.int ((p2 &&& (255 : Int32)).toUInt32.toUInt16.toUInt32.toInt32)), .val (.int ((p3 &&& (255 : Int32)).toUInt32.toUInt16.toUInt32.toInt32)), .val (.int ((p4 &&& (255 : Int32)).toUInt32.toUInt16.toUInt32.toInt32)), .val (.ref r6_0), .unset, .unset, .unset, .unset, .unset, .unset] [(.int p5)])) _
    refine X6.ldcInt hx hown_6 (mvT hZ_6 (hw _ (List.mem_of_getElem? (i := 0) rfl))) (g := (mkF m 47 #[.val (.int p1), .val (.int p2), .val (.int p3), .val (.int p4), .val (.int p5), .val (.int (f0_v5 p1)), .val (.int ((p2 &&& (255 : Int32)).toUInt32.toUInt16.toUInt32.toInt32)), .val (.int ((p3 &&& (255 : Int32)).toUInt32.toUInt16.toUInt32.toInt32)), .val (.int ((p4 &&& (255 : Int32)).toUInt32.toUInt16.toUInt32.toInt32)), .val (.ref r6_0), .unset, .unset, .unset, .unset, .unset, .unset] [(.int p5)])) rfl (hb hby at_47) _ ?_
    show Steps p.tables e below (T6.setTop (mkF m 49 #[.val (.int p1), .val (.int p2), .val (.int p3), .val (.int p4), .val (.int p5), .val (.int (f0_v5 p1)), .val (.int ((p2 &&& (255 : Int32)).toUInt32.toUInt16.toUInt32.toInt32)), .val (.int ((p3 &&& (255 : Int32)).toUInt32.toUInt16.toUInt32.toInt32)), .val (.int ((p4 &&& (255 : Int32)).toUInt32.toUInt16.toUInt32.toInt32)), .val (.ref r6_0), .unset, .unset, .unset, .unset, .unset, .unset] [(.int (2147483647 : Int32)), (.int p5)])) _
    refine XS.iand X6.here hx rfl (hb hby at_49) rfl ?_
    show Steps p.tables e below (T6.setTop (mkF m 50 #[.val (.int p1), .val (.int p2), .val (.int p3), .val (.int p4), .val (.int p5), .val (.int (f0_v5 p1)), .val (.int ((p2 &&& (255 : Int32)).toUInt32.toUInt16.toUInt32.toInt32)), .val (.int ((p3 &&& (255 : Int32)).toUInt32.toUInt16.toUInt32.toInt32)), .val (.int ((p4 &&& (255 : Int32)).toUInt32.toUInt16.toUInt32.toInt32)), .val (.ref r6_0), .unset, .unset, .unset, .unset, .unset, .unset] [(.int (p5 &&& (2147483647 : Int32)))])) _
    refine XS.iconst X6.here hx rfl (hb hby at_50) ?_
    show Steps p.tables e below (T6.setTop (mkF m 51 #[.val (.int p1), .val (.int p2), .val (.int p3), .val (.int p4), .val (.int p5), .val (.int (f0_v5 p1)), .val (.int ((p2 &&& (255 : Int32)).toUInt32.toUInt16.toUInt32.toInt32)), .val (.int ((p3 &&& (255 : Int32)).toUInt32.toUInt16.toUInt32.toInt32)), .val (.int ((p4 &&& (255 : Int32)).toUInt32.toUInt16.toUInt32.toInt32)), .val (.ref r6_0), .unset, .unset, .unset, .unset, .unset, .unset] [(.int (4 : Int32)), (.int (p5 &&& (2147483647 : Int32)))])) _
    refine XS.irem X6.here hx rfl (hb hby at_51) rfl (by decide) ?_
    show Steps p.tables e below (T6.setTop (mkF m 52 #[.val (.int p1), .val (.int p2), .val (.int p3), .val (.int p4), .val (.int p5), .val (.int (f0_v5 p1)), .val (.int ((p2 &&& (255 : Int32)).toUInt32.toUInt16.toUInt32.toInt32)), .val (.int ((p3 &&& (255 : Int32)).toUInt32.toUInt16.toUInt32.toInt32)), .val (.int ((p4 &&& (255 : Int32)).toUInt32.toUInt16.toUInt32.toInt32)), .val (.ref r6_0), .unset, .unset, .unset, .unset, .unset, .unset] [(.int (f0_v51 p5))])) _
    refine XS.istore X6.here hx rfl (hb hby at_52) rfl (l' := #[.val (.int p1), .val (.int p2), .val (.int p3), .val (.int p4), .val (.int p5), .val (.int (f0_v5 p1)), .val (.int ((p2 &&& (255 : Int32)).toUInt32.toUInt16.toUInt32.toInt32)), .val (.int ((p3 &&& (255 : Int32)).toUInt32.toUInt16.toUInt32.toInt32)), .val (.int ((p4 &&& (255 : Int32)).toUInt32.toUInt16.toUInt32.toInt32)), .val (.ref r6_0), .val (.int (f0_v51 p5)), .unset, .unset, .unset, .unset, .unset]) rfl ?_
    show Steps p.tables e below (T6.setTop (mkF m 54 #[.val (.int p1), .val (.int p2), .val (.int p3), .val (.int p4), .val (.int p5), .val (.int (f0_v5 p1)), .val (.int ((p2 &&& (255 : Int32)).toUInt32.toUInt16.toUInt32.toInt32)), .val (.int ((p3 &&& (255 : Int32)).toUInt32.toUInt16.toUInt32.toInt32)), .val (.int ((p4 &&& (255 : Int32)).toUInt32.toUInt16.toUInt32.toInt32)), .val (.ref r6_0), .val (.int (f0_v51 p5)), .unset, .unset, .unset, .unset, .unset] [])) _
    refine XS.iload X6.here hx rfl (hb hby at_54) rfl ?_
    show Steps p.tables e below (T6.setTop (mkF m 56 #[.val (.int p1), .val (.int p2), .val (.int p3), .val (.int p4), .val (.int p5), .val (.int (f0_v5 p1)), .val (.int ((p2 &&& (255 : Int32)).toUInt32.toUInt16.toUInt32.toInt32)), .val (.int ((p3 &&& (255 : Int32)).toUInt32.toUInt16.toUInt32.toInt32)), .val (.int ((p4 &&& (255 : Int32)).toUInt32.toUInt16.toUInt32.toInt32)), .val (.ref r6_0), .val (.int (f0_v51 p5)), .unset, .unset, .unset, .unset, .unset] [(.int (f0_v51 p5))])) _
    refine XS.iload X6.here hx rfl (hb hby at_56) rfl ?_
    show Steps p.tables e below (T6.setTop (mkF m 58 #[.val (.int p1), .val (.int p2), .val (.int p3), .val (.int p4), .val (.int p5), .val (.int (f0_v5 p1)), .val (.int ((p2 &&& (255 : Int32)).toUInt32.toUInt16.toUInt32.toInt32)), .val (.int ((p3 &&& (255 : Int32)).toUInt32.toUInt16.toUInt32.toInt32)), .val (.int ((p4 &&& (255 : Int32)).toUInt32.toUInt16.toUInt32.toInt32)), .val (.ref r6_0), .val (.int (f0_v51 p5)), .unset, .unset, .unset, .unset, .unset] [(.int ((p4 &&& (255 : Int32)).toUInt32.toUInt16.toUInt32.toInt32)), (.int (f0_v51 p5))])) _
    refine XS.iload X6.here hx rfl (hb hby at_58) rfl ?_
    show Steps p.tables e below (T6.setTop (mkF m 60 #[.val (.int p1), .val (.int p2), .val (.int p3), .val (.int p4), .val (.int p5), .val (.int (f0_v5 p1)), .val (.int ((p2 &&& (255 : Int32)).toUInt32.toUInt16.toUInt32.toInt32)), .val (.int ((p3 &&& (255 : Int32)).toUInt32.toUInt16.toUInt32.toInt32)), .val (.int ((p4 &&& (255 : Int32)).toUInt32.toUInt16.toUInt32.toInt32)), .val (.ref r6_0), .val (.int (f0_v51 p5)), .unset, .unset, .unset, .unset, .unset] [(.int ((p3 &&& (255 : Int32)).toUInt32.toUInt16.toUInt32.toInt32)), (.int ((p4 &&& (255 : Int32)).toUInt32.toUInt16.toUInt32.toInt32)), (.int (f0_v51 p5))])) _
    refine XS.iload X6.here hx rfl (hb hby at_60) rfl ?_
    show Steps p.tables e below (T6.setTop (mkF m 62 #[.val (.int p1), .val (.int p2), .val (.int p3), .val (.int p4), .val (.int p5), .val (.int (f0_v5 p1)), .val (.int ((p2 &&& (255 : Int32)).toUInt32.toUInt16.toUInt32.toInt32)), .val (.int ((p3 &&& (255 : Int32)).toUInt32.toUInt16.toUInt32.toInt32)), .val (.int ((p4 &&& (255 : Int32)).toUInt32.toUInt16.toUInt32.toInt32)), .val (.ref r6_0), .val (.int (f0_v51 p5)), .unset, .unset, .unset, .unset, .unset] [(.int ((p2 &&& (255 : Int32)).toUInt32.toUInt16.toUInt32.toInt32)), (.int ((p3 &&& (255 : Int32)).toUInt32.toUInt16.toUInt32.toInt32)), (.int ((p4 &&& (255 : Int32)).toUInt32.toUInt16.toUInt32.toInt32)), (.int (f0_v51 p5))])) _
    refine st15.trans ?_
    show Steps p.tables e below (T15.setTop (mkF m 65 #[.val (.int p1), .val (.int p2), .val (.int p3), .val (.int p4), .val (.int p5), .val (.int (f0_v5 p1)), .val (.int ((p2 &&& (255 : Int32)).toUInt32.toUInt16.toUInt32.toInt32)), .val (.int ((p3 &&& (255 : Int32)).toUInt32.toUInt16.toUInt32.toInt32)), .val (.int ((p4 &&& (255 : Int32)).toUInt32.toUInt16.toUInt32.toInt32)), .val (.ref r6_0), .val (.int (f0_v51 p5)), .unset, .unset, .unset, .unset, .unset] [(.ref r15_0)])) _
    refine XS.astore X15.here hx rfl (hb hby at_65) rfl rfl (l' := #[.val (.int p1), .val (.int p2), .val (.int p3), .val (.int p4), .val (.int p5), .val (.int (f0_v5 p1)), .val (.int ((p2 &&& (255 : Int32)).toUInt32.toUInt16.toUInt32.toInt32)), .val (.int ((p3 &&& (255 : Int32)).toUInt32.toUInt16.toUInt32.toInt32)), .val (.int ((p4 &&& (255 : Int32)).toUInt32.toUInt16.toUInt32.toInt32)), .val (.ref r6_0), .val (.int (f0_v51 p5)), .val (.ref r15_0), .unset, .unset, .unset, .unset]) rfl ?_
    show Steps p.tables e below (T15.setTop (mkF m 67 #[.val (.int p1), .val (.int p2), .val (.int p3), .val (.int p4), .val (.int p5), .val (.int (f0_v5 p1)), .val (.int ((p2 &&& (255 : Int32)).toUInt32.toUInt16.toUInt32.toInt32)), .val (.int ((p3 &&& (255 : Int32)).toUInt32.toUInt16.toUInt32.toInt32)), .val (.int ((p4 &&& (255 : Int32)).toUInt32.toUInt16.toUInt32.toInt32)), .val (.ref r6_0), .val (.int (f0_v51 p5)), .val (.ref r15_0), .unset, .unset, .unset, .unset] [])) _
    refine XS.iloadN X15.here hx rfl (hb hby at_67) rfl ?_
    show Steps p.tables e below (T15.setTop (mkF m 68 #[.val (.int p1), .val (.int p2), .val (.int p3), .val (.int p4), .val (.int p5), .val (.int (f0_v5 p1)), .val (.int ((p2 &&& (255 : Int32)).toUInt32.toUInt16.toUInt32.toInt32)), .val (.int ((p3 &&& (255 : Int32)).toUInt32.toUInt16.toUInt32.toInt32)), .val (.int ((p4 &&& (255 : Int32)).toUInt32.toUInt16.toUInt32.toInt32)), .val (.ref r6_0), .val (.int (f0_v51 p5)), .val (.ref r15_0), .unset, .unset, .unset, .unset] [(.int p1)])) _
    refine XS.bipush X15.here hx rfl (hb hby at_68) ?_
    show Steps p.tables e below (T15.setTop (mkF m 70 #[.val (.int p1), .val (.int p2), .val (.int p3), .val (.int p4), .val (.int p5), .val (.int (f0_v5 p1)), .val (.int ((p2 &&& (255 : Int32)).toUInt32.toUInt16.toUInt32.toInt32)), .val (.int ((p3 &&& (255 : Int32)).toUInt32.toUInt16.toUInt32.toInt32)), .val (.int ((p4 &&& (255 : Int32)).toUInt32.toUInt16.toUInt32.toInt32)), .val (.ref r6_0), .val (.int (f0_v51 p5)), .val (.ref r15_0), .unset, .unset, .unset, .unset] [(.int (8 : Int32)), (.int p1)])) _
    refine XS.iushr X15.here hx rfl (hb hby at_70) rfl ?_
    show Steps p.tables e below (T15.setTop (mkF m 71 #[.val (.int p1), .val (.int p2), .val (.int p3), .val (.int p4), .val (.int p5), .val (.int (f0_v5 p1)), .val (.int ((p2 &&& (255 : Int32)).toUInt32.toUInt16.toUInt32.toInt32)), .val (.int ((p3 &&& (255 : Int32)).toUInt32.toUInt16.toUInt32.toInt32)), .val (.int ((p4 &&& (255 : Int32)).toUInt32.toUInt16.toUInt32.toInt32)), .val (.ref r6_0), .val (.int (f0_v51 p5)), .val (.ref r15_0), .unset, .unset, .unset, .unset] [(.int ((p1.toUInt32 >>> ((8 : Int32) &&& 31).toUInt32).toInt32))])) _
    refine XS.iconst X15.here hx rfl (hb hby at_71) ?_
    show Steps p.tables e below (T15.setTop (mkF m 72 #[.val (.int p1), .val (.int p2), .val (.int p3), .val (.int p4), .val (.int p5), .val (.int (f0_v5 p1)), .val (.int ((p2 &&& (255 : Int32)).toUInt32.toUInt16.toUInt32.toInt32)), .val (.int ((p3 &&& (255 : Int32)).toUInt32.toUInt16.toUInt32.toInt32)), .val (.int ((p4 &&& (255 : Int32)).toUInt32.toUInt16.toUInt32.toInt32)), .val (.ref r6_0), .val (.int (f0_v51 p5)), .val (.ref r15_0), .unset, .unset, .unset, .unset] [(.int (1 : Int32)), (.int ((p1.toUInt32 >>> ((8 : Int32) &&& 31).toUInt32).toInt32))])) _
    refine XS.iand X15.here hx rfl (hb hby at_72) rfl ?_
    exact k
  have pre2 : ∀ t, Steps p.tables e below (T15.setTop (mkF m 81 #[.val (.int p1), .val (.int p2), .val (.int p3), .val (.int p4), .val (.int p5), .val (.int (f0_v5 p1)), .val (.int ((p2 &&& (255 : Int32)).toUInt32.toUInt16.toUInt32.toInt32)), .val (.int ((p3 &&& (255 : Int32)).toUInt32.toUInt16.toUInt32.toInt32)), .val (.int ((p4 &&& (255 : Int32)).toUInt32.toUInt16.toUInt32.toInt32)), .val (.ref r6_0), .val (.int (f0_v51 p5)), .val (.ref r15_0), .unset, .unset, .unset, .unset] [(.int (f0_s0_81 p1))])) t → Steps p.tables e below (s₁.setTop (entryFrame m #[(.int p1), (.int p2), (.int p3), (.int p4), (.int p5)] maxLocals)) t := by
    intro t k
    by_cases hc73 : (((p1.toUInt32 >>> ((8 : Int32) &&& 31).toUInt32).toInt32) &&& (1 : Int32)) = (0 : Int32)
    · have eq3 := (show (f0_s0_81 p1) = (0 : Int32) from by unfold f0_s0_81; simp only [if_pos hc73])
      try rw [eq3] at k
      refine pre1 t ?_
      show Steps p.tables e below (T15.setTop (mkF m 73 #[.val (.int p1), .val (.int p2), .val (.int p3), .val (.int p4), .val (.int p5), .val (.int (f0_v5 p1)), .val (.int ((p2 &&& (255 : Int32)).toUInt32.toUInt16.toUInt32.toInt32)), .val (.int ((p3 &&& (255 : Int32)).toUInt32.toUInt16.toUInt32.toInt32)), .val (.int ((p4 &&& (255 : Int32)).toUInt32.toUInt16.toUInt32.toInt32)), .val (.ref r6_0), .val (.int (f0_v51 p5)), .val (.ref r15_0), .unset, .unset, .unset, .unset] [(.int (((p1.toUInt32 >>> ((8 : Int32) &&& 31).toUInt32).toInt32) &&& (1 : Int32)))])) _
      refine XS.ifYes X15.here hx rfl (pc0 := 73) (pc' := 80) rfl (hb hby at_73) rfl ((if0 _ _).trans (teq hc73).1) (by decide) (by decide) ?_
      show Steps p.tables e below (T15.setTop (mkF m 80 #[.val (.int p1), .val (.int p2), .val (.int p3), .val (.int p4), .val (.int p5), .val (.int (f0_v5 p1)), .val (.int ((p2 &&& (255 : Int32)).toUInt32.toUInt16.toUInt32.toInt32)), .val (.int ((p3 &&& (255 : Int32)).toUInt32.toUInt16.toUInt32.toInt32)), .val (.int ((p4 &&& (255 : Int32)).toUInt32.toUInt16.toUInt32.toInt32)), .val (.ref r6_0), .val (.int (f0_v51 p5)), .val (.ref r15_0), .unset, .unset, .unset, .unset] [])) _
      refine XS.iconst X15.here hx rfl (hb hby at_80) ?_
      exact k
    · have eq4 := (show (f0_s0_81 p1) = (1 : Int32) from by unfold f0_s0_81; simp only [if_neg hc73])
      try rw [eq4] at k
      refine pre1 t ?_
      show Steps p.tables e below (T15.setTop (mkF m 73 #[.val (.int p1), .val (.int p2), .val (.int p3), .val (.int p4), .val (.int p5), .val (.int (f0_v5 p1)), .val (.int ((p2 &&& (255 : Int32)).toUInt32.toUInt16.toUInt32.toInt32)), .val (.int ((p3 &&& (255 : Int32)).toUInt32.toUInt16.toUInt32.toInt32)), .val (.int ((p4 &&& (255 : Int32)).toUInt32.toUInt16.toUInt32.toInt32)), .val (.ref r6_0), .val (.int (f0_v51 p5)), .val (.ref r15_0), .unset, .unset, .unset, .unset] [(.int (((p1.toUInt32 >>> ((8 : Int32) &&& 31).toUInt32).toInt32) &&& (1 : Int32)))])) _
      refine XS.ifNo X15.here hx rfl (hb hby at_73) rfl ((if0 _ _).trans (feq hc73).1) ?_
      show Steps p.tables e below (T15.setTop (mkF m 76 #[.val (.int p1), .val (.int p2), .val (.int p3), .val (.int p4), .val (.int p5), .val (.int (f0_v5 p1)), .val (.int ((p2 &&& (255 : Int32)).toUInt32.toUInt16.toUInt32.toInt32)), .val (.int ((p3 &&& (255 : Int32)).toUInt32.toUInt16.toUInt32.toInt32)), .val (.int ((p4 &&& (255 : Int32)).toUInt32.toUInt16.toUInt32.toInt32)), .val (.ref r6_0), .val (.int (f0_v51 p5)), .val (.ref r15_0), .unset, .unset, .unset, .unset] [])) _
      refine XS.iconst X15.here hx rfl (hb hby at_76) ?_
      show Steps p.tables e below (T15.setTop (mkF m 77 #[.val (.int p1), .val (.int p2), .val (.int p3), .val (.int p4), .val (.int p5), .val (.int (f0_v5 p1)), .val (.int ((p2 &&& (255 : Int32)).toUInt32.toUInt16.toUInt32.toInt32)), .val (.int ((p3 &&& (255 : Int32)).toUInt32.toUInt16.toUInt32.toInt32)), .val (.int ((p4 &&& (255 : Int32)).toUInt32.toUInt16.toUInt32.toInt32)), .val (.ref r6_0), .val (.int (f0_v51 p5)), .val (.ref r15_0), .unset, .unset, .unset, .unset] [(.int (1 : Int32))])) _
      refine XS.goto X15.here hx rfl (pc0 := 77) (pc' := 81) rfl (hb hby at_77) (by decide) (by decide) ?_
      exact k
  obtain ⟨T28, h28, X28, e28, E28, A28, D28, -, st28⟩ := newO X15 hx hZ hown (hw _ (List.mem_of_getElem? (i := 13) rfl)) (hw _ (List.mem_of_getElem? (i := 14) rfl)) (hw _ (List.mem_of_getElem? (i := 15) rfl)) rfl (g := (mkF m 83 #[.val (.int p1), .val (.int p2), .val (.int p3), .val (.int p4), .val (.int p5), .val (.int (f0_v5 p1)), .val (.int ((p2 &&& (255 : Int32)).toUInt32.toUInt16.toUInt32.toInt32)), .val (.int ((p3 &&& (255 : Int32)).toUInt32.toUInt16.toUInt32.toInt32)), .val (.int ((p4 &&& (255 : Int32)).toUInt32.toUInt16.toUInt32.toInt32)), .val (.ref r6_0), .val (.int (f0_v51 p5)), .val (.ref r15_0), .val (.int (f0_s0_81 p1)), .unset, .unset, .unset] [])) rfl (hb hby at_83) (by decide) (by decide)
  obtain ⟨b28, g28⟩ : ∃ z, z = T15.heap.size := ⟨_, rfl⟩
  rw [← g28] at A28 D28 st28
  have ne_w_LEG_b28 : w_LEG ≠ b28 := Nat.ne_of_lt (Nat.lt_of_lt_of_le c19.lt (Nat.le_of_eq g28.symm))
  have ne_w_ent_b28 : w_ent ≠ b28 := Nat.ne_of_lt (Nat.lt_of_lt_of_le c21.lt (Nat.le_of_eq g28.symm))
  have ne_w_val_b28 : w_val ≠ b28 := Nat.ne_of_lt (Nat.lt_of_lt_of_le c23.lt (Nat.le_of_eq g28.symm))
  have ne_r6_0_b28 : r6_0 ≠ b28 := Nat.ne_of_lt (Nat.lt_of_lt_of_le c24.lt (Nat.le_of_eq g28.symm))
  have ne_r6_1_b28 : r6_1 ≠ b28 := Nat.ne_of_lt (Nat.lt_of_lt_of_le c25.lt (Nat.le_of_eq g28.symm))
  have g_b28 : n0 ≤ b28 := Nat.le_trans c16 (Nat.le_of_eq g28.symm)
  have c29 : n0 ≤ h28.size := Nat.le_trans c16 E28.1
  have c30 : Sta Z h28 "java/lang/String" "COMPACT_STRINGS" "Z" (.int w_CS) := c17.ext E28
  have c31 : Sta Z h28 "com/example/titlepoint/titlepoint/FieldDefinition" "LEGACY_TITLE" "Lcom/example/titlepoint/titlepoint/FieldDefinition;" (.ref w_LEG) := c18.ext E28
  have c32 : Exa Z h28 w_LEG "com/example/titlepoint/titlepoint/FieldDefinition" := c19.ext E28
  have c33 : Fld Z h28 w_LEG "com/example/titlepoint/titlepoint/FieldDefinition" "entity" "Ljava/lang/String;" (.ref w_ent) := c20.ext E28
  have c34 : Exa Z h28 w_ent "java/lang/String" := c21.ext E28
  have c35 : Fld Z h28 w_ent "java/lang/String" "value" "[B" (.ref w_val) := c22.ext E28
  have c36 : IAr Z h28 w_val .byte z_w_val c_w_val := c23.ext E28
  have c37 : Exa Z h28 r6_0 "java/lang/String" := c24.ext E28
  have c38 : IAr Z h28 r6_1 .byte (f1w_x1n (f0_v5 p1) ((p2 &&& (255 : Int32)).toUInt32.toUInt16.toUInt32.toInt32) ((p3 &&& (255 : Int32)).toUInt32.toUInt16.toUInt32.toInt32) ((p4 &&& (255 : Int32)).toUInt32.toUInt16.toUInt32.toInt32) w_CS) (f1w_x1c (f0_v5 p1) ((p2 &&& (255 : Int32)).toUInt32.toUInt16.toUInt32.toInt32) ((p3 &&& (255 : Int32)).toUInt32.toUInt16.toUInt32.toInt32) ((p4 &&& (255 : Int32)).toUInt32.toUInt16.toUInt32.toInt32) w_CS) := c25.ext E28
  have c39 : Fld Z h28 r6_0 "java/lang/String" "value" "[B" (.ref r6_1) := c26.ext E28
  have c40 : T15.heap.size ≤ h28.size := Nat.le_trans (Nat.le_refl _) E28.1
  have c41 : Fld Z h28 b28 "com/example/titlepoint/titlepoint/FieldDefinition" "tag" "Ljava/lang/String;" .null := D28 (Or.inr (hw _ (List.mem_of_getElem? (i := 32) rfl))) (ty := (.object "java/lang/String")) (by decide)
  have c42 : Fld Z h28 b28 "com/example/titlepoint/titlepoint/FieldDefinition" "label" "Ljava/lang/String;" .null := D28 (Or.inr (hw _ (List.mem_of_getElem? (i := 34) rfl))) (ty := (.object "java/lang/String")) (by decide)
  have c43 : Fld Z h28 b28 "com/example/titlepoint/titlepoint/FieldDefinition" "fieldRepeatable" "Z" (.int (0 : Int32)) := D28 (Or.inr (hw _ (List.mem_of_getElem? (i := 36) rfl))) (ty := .boolean) (by decide)
  have c44 : Fld Z h28 b28 "com/example/titlepoint/titlepoint/FieldDefinition" "indicator1" "Ljava/lang/String;" .null := D28 (Or.inr (hw _ (List.mem_of_getElem? (i := 38) rfl))) (ty := (.object "java/lang/String")) (by decide)
  have c45 : Fld Z h28 b28 "com/example/titlepoint/titlepoint/FieldDefinition" "indicator2" "Ljava/lang/String;" .null := D28 (Or.inr (hw _ (List.mem_of_getElem? (i := 40) rfl))) (ty := (.object "java/lang/String")) (by decide)
  have c46 : Fld Z h28 b28 "com/example/titlepoint/titlepoint/FieldDefinition" "work" "Ljava/lang/String;" .null := D28 (Or.inr (hw _ (List.mem_of_getElem? (i := 42) rfl))) (ty := (.object "java/lang/String")) (by decide)
  have c47 : Fld Z h28 b28 "com/example/titlepoint/titlepoint/FieldDefinition" "expression" "Ljava/lang/String;" .null := D28 (Or.inr (hw _ (List.mem_of_getElem? (i := 44) rfl))) (ty := (.object "java/lang/String")) (by decide)
  have c48 : Fld Z h28 b28 "com/example/titlepoint/titlepoint/FieldDefinition" "others" "Ljava/lang/String;" .null := D28 (Or.inr (hw _ (List.mem_of_getElem? (i := 46) rfl))) (ty := (.object "java/lang/String")) (by decide)
  have c49 : Fld Z h28 b28 "com/example/titlepoint/titlepoint/FieldDefinition" "repeatable" "Ljava/lang/String;" .null := D28 (Or.inr (hw _ (List.mem_of_getElem? (i := 48) rfl))) (ty := (.object "java/lang/String")) (by decide)
  have c50 : Fld Z h28 b28 "com/example/titlepoint/titlepoint/FieldDefinition" "required" "Ljava/lang/String;" .null := D28 (Or.inr (hw _ (List.mem_of_getElem? (i := 50) rfl))) (ty := (.object "java/lang/String")) (by decide)
  have c51 : Fld Z h28 b28 "com/example/titlepoint/titlepoint/FieldDefinition" "subfieldLabels" "Ljava/util/Map;" .null := D28 (Or.inr (hw _ (List.mem_of_getElem? (i := 52) rfl))) (ty := (.object "java/util/Map")) (by decide)
  have c52 : Fld Z h28 b28 "com/example/titlepoint/titlepoint/FieldDefinition" "entity" "Ljava/lang/String;" .null := D28 (Or.inr (hw _ (List.mem_of_getElem? (i := 54) rfl))) (ty := (.object "java/lang/String")) (by decide)
  have c53 : Fld Z h28 b28 "com/example/titlepoint/titlepoint/FieldDefinition" "embeds" "Ljava/lang/String;" .null := D28 (Or.inr (hw _ (List.mem_of_getElem? (i := 56) rfl))) (ty := (.object "java/lang/String")) (by decide)
  have c54 : Fld Z h28 b28 "com/example/titlepoint/titlepoint/FieldDefinition" "standardIndicator2" "Ljava/lang/String;" .null := D28 (Or.inr (hw _ (List.mem_of_getElem? (i := 58) rfl))) (ty := (.object "java/lang/String")) (by decide)
  obtain ⟨rs55, T55, h55, k55, X55, e55, E55, S55, y55, hZ, hown, st55⟩ := ldcS (s := s) (vm0 := T15.vm) X28 hx hZ hown (hw _ (List.mem_of_getElem? (i := 16) rfl)) (own_wS hw) e28 S15 c40 (g := (mkF m 87 #[.val (.int p1), .val (.int p2), .val (.int p3), .val (.int p4), .val (.int p5), .val (.int (f0_v5 p1)), .val (.int ((p2 &&& (255 : Int32)).toUInt32.toUInt16.toUInt32.toInt32)), .val (.int ((p3 &&& (255 : Int32)).toUInt32.toUInt16.toUInt32.toInt32)), .val (.int ((p4 &&& (255 : Int32)).toUInt32.toUInt16.toUInt32.toInt32)), .val (.ref r6_0), .val (.int (f0_v51 p5)), .val (.ref r15_0), .val (.int (f0_s0_81 p1)), .unset, .unset, .unset] [(.ref b28), (.ref b28)])) rfl (hb hby at_87) (n := 16) (by decide) (by decide) (by decide) (by decide)
  have c56 : n0 ≤ h55.size := Nat.le_trans c29 E55.1
  have c57 : Sta Z h55 "java/lang/String" "COMPACT_STRINGS" "Z" (.int w_CS) := c30.ext E55
  have c58 : Sta Z h55 "com/example/titlepoint/titlepoint/FieldDefinition" "LEGACY_TITLE" "Lcom/example/titlepoint/titlepoint/FieldDefinition;" (.ref w_LEG) := c31.ext E55
  have c59 : Exa Z h55 w_LEG "com/example/titlepoint/titlepoint/FieldDefinition" := c32.ext E55
  have c60 : Fld Z h55 w_LEG "com/example/titlepoint/titlepoint/FieldDefinition" "entity" "Ljava/lang/String;" (.ref w_ent) := c33.ext E55
  have c61 : Exa Z h55 w_ent "java/lang/String" := c34.ext E55
  have c62 : Fld Z h55 w_ent "java/lang/String" "value" "[B" (.ref w_val) := c35.ext E55
  have c63 : IAr Z h55 w_val .byte z_w_val c_w_val := c36.ext E55
  have c64 : Exa Z h55 r6_0 "java/lang/String" := c37.ext E55
  have c65 : IAr Z h55 r6_1 .byte (f1w_x1n (f0_v5 p1) ((p2 &&& (255 : Int32)).toUInt32.toUInt16.toUInt32.toInt32) ((p3 &&& (255 : Int32)).toUInt32.toUInt16.toUInt32.toInt32) ((p4 &&& (255 : Int32)).toUInt32.toUInt16.toUInt32.toInt32) w_CS) (f1w_x1c (f0_v5 p1) ((p2 &&& (255 : Int32)).toUInt32.toUInt16.toUInt32.toInt32) ((p3 &&& (255 : Int32)).toUInt32.toUInt16.toUInt32.toInt32) ((p4 &&& (255 : Int32)).toUInt32.toUInt16.toUInt32.toInt32) w_CS) := c38.ext E55
  have c66 : Fld Z h55 r6_0 "java/lang/String" "value" "[B" (.ref r6_1) := c39.ext E55
  have c67 : T15.heap.size ≤ h55.size := Nat.le_trans c40 E55.1
  have c68 : Exa Z h55 b28 "com/example/titlepoint/titlepoint/FieldDefinition" := A28.ext E55
  have c69 : Fld Z h55 b28 "com/example/titlepoint/titlepoint/FieldDefinition" "tag" "Ljava/lang/String;" .null := c41.ext E55
  have c70 : Fld Z h55 b28 "com/example/titlepoint/titlepoint/FieldDefinition" "label" "Ljava/lang/String;" .null := c42.ext E55
  have c71 : Fld Z h55 b28 "com/example/titlepoint/titlepoint/FieldDefinition" "fieldRepeatable" "Z" (.int (0 : Int32)) := c43.ext E55
  have c72 : Fld Z h55 b28 "com/example/titlepoint/titlepoint/FieldDefinition" "indicator1" "Ljava/lang/String;" .null := c44.ext E55
  have c73 : Fld Z h55 b28 "com/example/titlepoint/titlepoint/FieldDefinition" "indicator2" "Ljava/lang/String;" .null := c45.ext E55
  have c74 : Fld Z h55 b28 "com/example/titlepoint/titlepoint/FieldDefinition" "work" "Ljava/lang/String;" .null := c46.ext E55
  have c75 : Fld Z h55 b28 "com/example/titlepoint/titlepoint/FieldDefinition" "expression" "Ljava/lang/String;" .null := c47.ext E55
  have c76 : Fld Z h55 b28 "com/example/titlepoint/titlepoint/FieldDefinition" "others" "Ljava/lang/String;" .null := c48.ext E55
  have c77 : Fld Z h55 b28 "com/example/titlepoint/titlepoint/FieldDefinition" "repeatable" "Ljava/lang/String;" .null := c49.ext E55
  have c78 : Fld Z h55 b28 "com/example/titlepoint/titlepoint/FieldDefinition" "required" "Ljava/lang/String;" .null := c50.ext E55
  have c79 : Fld Z h55 b28 "com/example/titlepoint/titlepoint/FieldDefinition" "subfieldLabels" "Ljava/util/Map;" .null := c51.ext E55
  have c80 : Fld Z h55 b28 "com/example/titlepoint/titlepoint/FieldDefinition" "entity" "Ljava/lang/String;" .null := c52.ext E55
  have c81 : Fld Z h55 b28 "com/example/titlepoint/titlepoint/FieldDefinition" "embeds" "Ljava/lang/String;" .null := c53.ext E55
  have c82 : Fld Z h55 b28 "com/example/titlepoint/titlepoint/FieldDefinition" "standardIndicator2" "Ljava/lang/String;" .null := c54.ext E55
  have hZ_55 := hZ
  have hown_55 := hown
  obtain ⟨rs83, T83, h83, k83, X83, e83, E83, S83, y83, hZ, hown, st83⟩ := ldcS (s := s) (vm0 := T55.vm) X55 hx hZ hown (hw _ (List.mem_of_getElem? (i := 17) rfl)) (own_wS hw) e55 S55 y55 (g := (mkF m 89 #[.val (.int p1), .val (.int p2), .val (.int p3), .val (.int p4), .val (.int p5), .val (.int (f0_v5 p1)), .val (.int ((p2 &&& (255 : Int32)).toUInt32.toUInt16.toUInt32.toInt32)), .val (.int ((p3 &&& (255 : Int32)).toUInt32.toUInt16.toUInt32.toInt32)), .val (.int ((p4 &&& (255 : Int32)).toUInt32.toUInt16.toUInt32.toInt32)), .val (.ref r6_0), .val (.int (f0_v51 p5)), .val (.ref r15_0), .val (.int (f0_s0_81 p1)), .unset, .unset, .unset] [(.ref rs55), (.ref b28), (.ref b28)])) rfl (hb hby at_89) (n := 16) (by decide) (by decide) (by decide) (by decide)
  have c84 : n0 ≤ h83.size := Nat.le_trans c56 E83.1
  have c85 : Sta Z h83 "java/lang/String" "COMPACT_STRINGS" "Z" (.int w_CS) := c57.ext E83
  have c86 : Sta Z h83 "com/example/titlepoint/titlepoint/FieldDefinition" "LEGACY_TITLE" "Lcom/example/titlepoint/titlepoint/FieldDefinition;" (.ref w_LEG) := c58.ext E83
  have c87 : Exa Z h83 w_LEG "com/example/titlepoint/titlepoint/FieldDefinition" := c59.ext E83
  have c88 : Fld Z h83 w_LEG "com/example/titlepoint/titlepoint/FieldDefinition" "entity" "Ljava/lang/String;" (.ref w_ent) := c60.ext E83
  have c89 : Exa Z h83 w_ent "java/lang/String" := c61.ext E83
  have c90 : Fld Z h83 w_ent "java/lang/String" "value" "[B" (.ref w_val) := c62.ext E83
  have c91 : IAr Z h83 w_val .byte z_w_val c_w_val := c63.ext E83
  have c92 : Exa Z h83 r6_0 "java/lang/String" := c64.ext E83
  have c93 : IAr Z h83 r6_1 .byte (f1w_x1n (f0_v5 p1) ((p2 &&& (255 : Int32)).toUInt32.toUInt16.toUInt32.toInt32) ((p3 &&& (255 : Int32)).toUInt32.toUInt16.toUInt32.toInt32) ((p4 &&& (255 : Int32)).toUInt32.toUInt16.toUInt32.toInt32) w_CS) (f1w_x1c (f0_v5 p1) ((p2 &&& (255 : Int32)).toUInt32.toUInt16.toUInt32.toInt32) ((p3 &&& (255 : Int32)).toUInt32.toUInt16.toUInt32.toInt32) ((p4 &&& (255 : Int32)).toUInt32.toUInt16.toUInt32.toInt32) w_CS) := c65.ext E83
  have c94 : Fld Z h83 r6_0 "java/lang/String" "value" "[B" (.ref r6_1) := c66.ext E83
  have c95 : k55 ≤ h83.size := Nat.le_trans y55 E83.1
  have c96 : Exa Z h83 b28 "com/example/titlepoint/titlepoint/FieldDefinition" := c68.ext E83
  have c97 : Fld Z h83 b28 "com/example/titlepoint/titlepoint/FieldDefinition" "tag" "Ljava/lang/String;" .null := c69.ext E83
  have c98 : Fld Z h83 b28 "com/example/titlepoint/titlepoint/FieldDefinition" "label" "Ljava/lang/String;" .null := c70.ext E83
  have c99 : Fld Z h83 b28 "com/example/titlepoint/titlepoint/FieldDefinition" "fieldRepeatable" "Z" (.int (0 : Int32)) := c71.ext E83
  have c100 : Fld Z h83 b28 "com/example/titlepoint/titlepoint/FieldDefinition" "indicator1" "Ljava/lang/String;" .null := c72.ext E83
  have c101 : Fld Z h83 b28 "com/example/titlepoint/titlepoint/FieldDefinition" "indicator2" "Ljava/lang/String;" .null := c73.ext E83
  have c102 : Fld Z h83 b28 "com/example/titlepoint/titlepoint/FieldDefinition" "work" "Ljava/lang/String;" .null := c74.ext E83
  have c103 : Fld Z h83 b28 "com/example/titlepoint/titlepoint/FieldDefinition" "expression" "Ljava/lang/String;" .null := c75.ext E83
  have c104 : Fld Z h83 b28 "com/example/titlepoint/titlepoint/FieldDefinition" "others" "Ljava/lang/String;" .null := c76.ext E83
  have c105 : Fld Z h83 b28 "com/example/titlepoint/titlepoint/FieldDefinition" "repeatable" "Ljava/lang/String;" .null := c77.ext E83
  have c106 : Fld Z h83 b28 "com/example/titlepoint/titlepoint/FieldDefinition" "required" "Ljava/lang/String;" .null := c78.ext E83
  have c107 : Fld Z h83 b28 "com/example/titlepoint/titlepoint/FieldDefinition" "subfieldLabels" "Ljava/util/Map;" .null := c79.ext E83
  have c108 : Fld Z h83 b28 "com/example/titlepoint/titlepoint/FieldDefinition" "entity" "Ljava/lang/String;" .null := c80.ext E83
  have c109 : Fld Z h83 b28 "com/example/titlepoint/titlepoint/FieldDefinition" "embeds" "Ljava/lang/String;" .null := c81.ext E83
  have c110 : Fld Z h83 b28 "com/example/titlepoint/titlepoint/FieldDefinition" "standardIndicator2" "Ljava/lang/String;" .null := c82.ext E83
  have hZ_83 := hZ
  have hown_83 := hown
  obtain ⟨rs111, T111, h111, k111, X111, e111, E111, S111, y111, hZ, hown, st111⟩ := ldcS (s := s) (vm0 := T83.vm) X83 hx hZ hown (hw _ (List.mem_of_getElem? (i := 18) rfl)) (own_wS hw) e83 S83 y83 (g := (mkF m 93 #[.val (.int p1), .val (.int p2), .val (.int p3), .val (.int p4), .val (.int p5), .val (.int (f0_v5 p1)), .val (.int ((p2 &&& (255 : Int32)).toUInt32.toUInt16.toUInt32.toInt32)), .val (.int ((p3 &&& (255 : Int32)).toUInt32.toUInt16.toUInt32.toInt32)), .val (.int ((p4 &&& (255 : Int32)).toUInt32.toUInt16.toUInt32.toInt32)), .val (.ref r6_0), .val (.int (f0_v51 p5)), .val (.ref r15_0), .val (.int (f0_s0_81 p1)), .unset, .unset, .unset] [(.int (f0_s0_81 p1)), (.ref rs83), (.ref rs55), (.ref b28), (.ref b28)])) rfl (hb hby at_93) (n := 16) (by decide) (by decide) (by decide) (by decide)
  have c112 : n0 ≤ h111.size := Nat.le_trans c84 E111.1
  have c113 : Sta Z h111 "java/lang/String" "COMPACT_STRINGS" "Z" (.int w_CS) := c85.ext E111
  have c114 : Sta Z h111 "com/example/titlepoint/titlepoint/FieldDefinition" "LEGACY_TITLE" "Lcom/example/titlepoint/titlepoint/FieldDefinition;" (.ref w_LEG) := c86.ext E111
  have c115 : Exa Z h111 w_LEG "com/example/titlepoint/titlepoint/FieldDefinition" := c87.ext E111
  have c116 : Fld Z h111 w_LEG "com/example/titlepoint/titlepoint/FieldDefinition" "entity" "Ljava/lang/String;" (.ref w_ent) := c88.ext E111
  have c117 : Exa Z h111 w_ent "java/lang/String" := c89.ext E111
  have c118 : Fld Z h111 w_ent "java/lang/String" "value" "[B" (.ref w_val) := c90.ext E111
  have c119 : IAr Z h111 w_val .byte z_w_val c_w_val := c91.ext E111
  have c120 : Exa Z h111 r6_0 "java/lang/String" := c92.ext E111
  have c121 : IAr Z h111 r6_1 .byte (f1w_x1n (f0_v5 p1) ((p2 &&& (255 : Int32)).toUInt32.toUInt16.toUInt32.toInt32) ((p3 &&& (255 : Int32)).toUInt32.toUInt16.toUInt32.toInt32) ((p4 &&& (255 : Int32)).toUInt32.toUInt16.toUInt32.toInt32) w_CS) (f1w_x1c (f0_v5 p1) ((p2 &&& (255 : Int32)).toUInt32.toUInt16.toUInt32.toInt32) ((p3 &&& (255 : Int32)).toUInt32.toUInt16.toUInt32.toInt32) ((p4 &&& (255 : Int32)).toUInt32.toUInt16.toUInt32.toInt32) w_CS) := c93.ext E111
  have c122 : Fld Z h111 r6_0 "java/lang/String" "value" "[B" (.ref r6_1) := c94.ext E111
  have c123 : k83 ≤ h111.size := Nat.le_trans y83 E111.1
  have c124 : Exa Z h111 b28 "com/example/titlepoint/titlepoint/FieldDefinition" := c96.ext E111
  have c125 : Fld Z h111 b28 "com/example/titlepoint/titlepoint/FieldDefinition" "tag" "Ljava/lang/String;" .null := c97.ext E111
  have c126 : Fld Z h111 b28 "com/example/titlepoint/titlepoint/FieldDefinition" "label" "Ljava/lang/String;" .null := c98.ext E111
  have c127 : Fld Z h111 b28 "com/example/titlepoint/titlepoint/FieldDefinition" "fieldRepeatable" "Z" (.int (0 : Int32)) := c99.ext E111
  have c128 : Fld Z h111 b28 "com/example/titlepoint/titlepoint/FieldDefinition" "indicator1" "Ljava/lang/String;" .null := c100.ext E111
  have c129 : Fld Z h111 b28 "com/example/titlepoint/titlepoint/FieldDefinition" "indicator2" "Ljava/lang/String;" .null := c101.ext E111
  have c130 : Fld Z h111 b28 "com/example/titlepoint/titlepoint/FieldDefinition" "work" "Ljava/lang/String;" .null := c102.ext E111
  have c131 : Fld Z h111 b28 "com/example/titlepoint/titlepoint/FieldDefinition" "expression" "Ljava/lang/String;" .null := c103.ext E111
  have c132 : Fld Z h111 b28 "com/example/titlepoint/titlepoint/FieldDefinition" "others" "Ljava/lang/String;" .null := c104.ext E111
  have c133 : Fld Z h111 b28 "com/example/titlepoint/titlepoint/FieldDefinition" "repeatable" "Ljava/lang/String;" .null := c105.ext E111
  have c134 : Fld Z h111 b28 "com/example/titlepoint/titlepoint/FieldDefinition" "required" "Ljava/lang/String;" .null := c106.ext E111
  have c135 : Fld Z h111 b28 "com/example/titlepoint/titlepoint/FieldDefinition" "subfieldLabels" "Ljava/util/Map;" .null := c107.ext E111
  have c136 : Fld Z h111 b28 "com/example/titlepoint/titlepoint/FieldDefinition" "entity" "Ljava/lang/String;" .null := c108.ext E111
  have c137 : Fld Z h111 b28 "com/example/titlepoint/titlepoint/FieldDefinition" "embeds" "Ljava/lang/String;" .null := c109.ext E111
  have c138 : Fld Z h111 b28 "com/example/titlepoint/titlepoint/FieldDefinition" "standardIndicator2" "Ljava/lang/String;" .null := c110.ext E111
  have hZ_111 := hZ
  have hown_111 := hown
  obtain ⟨rs139, T139, h139, k139, X139, e139, E139, S139, y139, hZ, hown, st139⟩ := ldcS (s := s) (vm0 := T111.vm) X111 hx hZ hown (hw _ (List.mem_of_getElem? (i := 18) rfl)) (own_wS hw) e111 S111 y111 (g := (mkF m 95 #[.val (.int p1), .val (.int p2), .val (.int p3), .val (.int p4), .val (.int p5), .val (.int (f0_v5 p1)), .val (.int ((p2 &&& (255 : Int32)).toUInt32.toUInt16.toUInt32.toInt32)), .val (.int ((p3 &&& (255 : Int32)).toUInt32.toUInt16.toUInt32.toInt32)), .val (.int ((p4 &&& (255 : Int32)).toUInt32.toUInt16.toUInt32.toInt32)), .val (.ref r6_0), .val (.int (f0_v51 p5)), .val (.ref r15_0), .val (.int (f0_s0_81 p1)), .unset, .unset, .unset] [(.ref rs111), (.int (f0_s0_81 p1)), (.ref rs83), (.ref rs55), (.ref b28), (.ref b28)])) rfl (hb hby at_95) (n := 16) (by decide) (by decide) (by decide) (by decide)
  have c140 : n0 ≤ h139.size := Nat.le_trans c112 E139.1
  have c141 : Sta Z h139 "java/lang/String" "COMPACT_STRINGS" "Z" (.int w_CS) := c113.ext E139
  have c142 : Sta Z h139 "com/example/titlepoint/titlepoint/FieldDefinition" "LEGACY_TITLE" "Lcom/example/titlepoint/titlepoint/FieldDefinition;" (.ref w_LEG) := c114.ext E139
  have c143 : Exa Z h139 w_LEG "com/example/titlepoint/titlepoint/FieldDefinition" := c115.ext E139
  have c144 : Fld Z h139 w_LEG "com/example/titlepoint/titlepoint/FieldDefinition" "entity" "Ljava/lang/String;" (.ref w_ent) := c116.ext E139
  have c145 : Exa Z h139 w_ent "java/lang/String" := c117.ext E139
  have c146 : Fld Z h139 w_ent "java/lang/String" "value" "[B" (.ref w_val) := c118.ext E139
  have c147 : IAr Z h139 w_val .byte z_w_val c_w_val := c119.ext E139
  have c148 : Exa Z h139 r6_0 "java/lang/String" := c120.ext E139
  have c149 : IAr Z h139 r6_1 .byte (f1w_x1n (f0_v5 p1) ((p2 &&& (255 : Int32)).toUInt32.toUInt16.toUInt32.toInt32) ((p3 &&& (255 : Int32)).toUInt32.toUInt16.toUInt32.toInt32) ((p4 &&& (255 : Int32)).toUInt32.toUInt16.toUInt32.toInt32) w_CS) (f1w_x1c (f0_v5 p1) ((p2 &&& (255 : Int32)).toUInt32.toUInt16.toUInt32.toInt32) ((p3 &&& (255 : Int32)).toUInt32.toUInt16.toUInt32.toInt32) ((p4 &&& (255 : Int32)).toUInt32.toUInt16.toUInt32.toInt32) w_CS) := c121.ext E139
  have c150 : Fld Z h139 r6_0 "java/lang/String" "value" "[B" (.ref r6_1) := c122.ext E139
  have c151 : k111 ≤ h139.size := Nat.le_trans y111 E139.1
  have c152 : Exa Z h139 b28 "com/example/titlepoint/titlepoint/FieldDefinition" := c124.ext E139
  have c153 : Fld Z h139 b28 "com/example/titlepoint/titlepoint/FieldDefinition" "tag" "Ljava/lang/String;" .null := c125.ext E139
  have c154 : Fld Z h139 b28 "com/example/titlepoint/titlepoint/FieldDefinition" "label" "Ljava/lang/String;" .null := c126.ext E139
  have c155 : Fld Z h139 b28 "com/example/titlepoint/titlepoint/FieldDefinition" "fieldRepeatable" "Z" (.int (0 : Int32)) := c127.ext E139
  have c156 : Fld Z h139 b28 "com/example/titlepoint/titlepoint/FieldDefinition" "indicator1" "Ljava/lang/String;" .null := c128.ext E139
  have c157 : Fld Z h139 b28 "com/example/titlepoint/titlepoint/FieldDefinition" "indicator2" "Ljava/lang/String;" .null := c129.ext E139
  have c158 : Fld Z h139 b28 "com/example/titlepoint/titlepoint/FieldDefinition" "work" "Ljava/lang/String;" .null := c130.ext E139
  have c159 : Fld Z h139 b28 "com/example/titlepoint/titlepoint/FieldDefinition" "expression" "Ljava/lang/String;" .null := c131.ext E139
  have c160 : Fld Z h139 b28 "com/example/titlepoint/titlepoint/FieldDefinition" "others" "Ljava/lang/String;" .null := c132.ext E139
  have c161 : Fld Z h139 b28 "com/example/titlepoint/titlepoint/FieldDefinition" "repeatable" "Ljava/lang/String;" .null := c133.ext E139
  have c162 : Fld Z h139 b28 "com/example/titlepoint/titlepoint/FieldDefinition" "required" "Ljava/lang/String;" .null := c134.ext E139
  have c163 : Fld Z h139 b28 "com/example/titlepoint/titlepoint/FieldDefinition" "subfieldLabels" "Ljava/util/Map;" .null := c135.ext E139
  have c164 : Fld Z h139 b28 "com/example/titlepoint/titlepoint/FieldDefinition" "entity" "Ljava/lang/String;" .null := c136.ext E139
  have c165 : Fld Z h139 b28 "com/example/titlepoint/titlepoint/FieldDefinition" "embeds" "Ljava/lang/String;" .null := c137.ext E139
  have c166 : Fld Z h139 b28 "com/example/titlepoint/titlepoint/FieldDefinition" "standardIndicator2" "Ljava/lang/String;" .null := c138.ext E139
  have hZ_139 := hZ
  have hown_139 := hown
  obtain ⟨rs167, T167, h167, k167, X167, e167, E167, S167, y167, hZ, hown, st167⟩ := ldcS (s := s) (vm0 := T139.vm) X139 hx hZ hown (hw _ (List.mem_of_getElem? (i := 19) rfl)) (own_wS hw) e139 S139 y139 (g := (mkF m 97 #[.val (.int p1), .val (.int p2), .val (.int p3), .val (.int p4), .val (.int p5), .val (.int (f0_v5 p1)), .val (.int ((p2 &&& (255 : Int32)).toUInt32.toUInt16.toUInt32.toInt32)), .val (.int ((p3 &&& (255 : Int32)).toUInt32.toUInt16.toUInt32.toInt32)), .val (.int ((p4 &&& (255 : Int32)).toUInt32.toUInt16.toUInt32.toInt32)), .val (.ref r6_0), .val (.int (f0_v51 p5)), .val (.ref r15_0), .val (.int (f0_s0_81 p1)), .unset, .unset, .unset] [(.ref rs139), (.ref rs111), (.int (f0_s0_81 p1)), (.ref rs83), (.ref rs55), (.ref b28), (.ref b28)])) rfl (hb hby at_97) (n := 16) (by decide) (by decide) (by decide) (by decide)
  have c168 : n0 ≤ h167.size := Nat.le_trans c140 E167.1
  have c169 : Sta Z h167 "java/lang/String" "COMPACT_STRINGS" "Z" (.int w_CS) := c141.ext E167
  have c170 : Sta Z h167 "com/example/titlepoint/titlepoint/FieldDefinition" "LEGACY_TITLE" "Lcom/example/titlepoint/titlepoint/FieldDefinition;" (.ref w_LEG) := c142.ext E167
  have c171 : Exa Z h167 w_LEG "com/example/titlepoint/titlepoint/FieldDefinition" := c143.ext E167
  have c172 : Fld Z h167 w_LEG "com/example/titlepoint/titlepoint/FieldDefinition" "entity" "Ljava/lang/String;" (.ref w_ent) := c144.ext E167
  have c173 : Exa Z h167 w_ent "java/lang/String" := c145.ext E167
  have c174 : Fld Z h167 w_ent "java/lang/String" "value" "[B" (.ref w_val) := c146.ext E167
  have c175 : IAr Z h167 w_val .byte z_w_val c_w_val := c147.ext E167
  have c176 : Exa Z h167 r6_0 "java/lang/String" := c148.ext E167
  have c177 : IAr Z h167 r6_1 .byte (f1w_x1n (f0_v5 p1) ((p2 &&& (255 : Int32)).toUInt32.toUInt16.toUInt32.toInt32) ((p3 &&& (255 : Int32)).toUInt32.toUInt16.toUInt32.toInt32) ((p4 &&& (255 : Int32)).toUInt32.toUInt16.toUInt32.toInt32) w_CS) (f1w_x1c (f0_v5 p1) ((p2 &&& (255 : Int32)).toUInt32.toUInt16.toUInt32.toInt32) ((p3 &&& (255 : Int32)).toUInt32.toUInt16.toUInt32.toInt32) ((p4 &&& (255 : Int32)).toUInt32.toUInt16.toUInt32.toInt32) w_CS) := c149.ext E167
  have c178 : Fld Z h167 r6_0 "java/lang/String" "value" "[B" (.ref r6_1) := c150.ext E167
  have c179 : k139 ≤ h167.size := Nat.le_trans y139 E167.1
  have c180 : Exa Z h167 b28 "com/example/titlepoint/titlepoint/FieldDefinition" := c152.ext E167
  have c181 : Fld Z h167 b28 "com/example/titlepoint/titlepoint/FieldDefinition" "tag" "Ljava/lang/String;" .null := c153.ext E167
  have c182 : Fld Z h167 b28 "com/example/titlepoint/titlepoint/FieldDefinition" "label" "Ljava/lang/String;" .null := c154.ext E167
  have c183 : Fld Z h167 b28 "com/example/titlepoint/titlepoint/FieldDefinition" "fieldRepeatable" "Z" (.int (0 : Int32)) := c155.ext E167
  have c184 : Fld Z h167 b28 "com/example/titlepoint/titlepoint/FieldDefinition" "indicator1" "Ljava/lang/String;" .null := c156.ext E167
  have c185 : Fld Z h167 b28 "com/example/titlepoint/titlepoint/FieldDefinition" "indicator2" "Ljava/lang/String;" .null := c157.ext E167
  have c186 : Fld Z h167 b28 "com/example/titlepoint/titlepoint/FieldDefinition" "work" "Ljava/lang/String;" .null := c158.ext E167
  have c187 : Fld Z h167 b28 "com/example/titlepoint/titlepoint/FieldDefinition" "expression" "Ljava/lang/String;" .null := c159.ext E167
  have c188 : Fld Z h167 b28 "com/example/titlepoint/titlepoint/FieldDefinition" "others" "Ljava/lang/String;" .null := c160.ext E167
  have c189 : Fld Z h167 b28 "com/example/titlepoint/titlepoint/FieldDefinition" "repeatable" "Ljava/lang/String;" .null := c161.ext E167
  have c190 : Fld Z h167 b28 "com/example/titlepoint/titlepoint/FieldDefinition" "required" "Ljava/lang/String;" .null := c162.ext E167
  have c191 : Fld Z h167 b28 "com/example/titlepoint/titlepoint/FieldDefinition" "subfieldLabels" "Ljava/util/Map;" .null := c163.ext E167
  have c192 : Fld Z h167 b28 "com/example/titlepoint/titlepoint/FieldDefinition" "entity" "Ljava/lang/String;" .null := c164.ext E167
  have c193 : Fld Z h167 b28 "com/example/titlepoint/titlepoint/FieldDefinition" "embeds" "Ljava/lang/String;" .null := c165.ext E167
  have c194 : Fld Z h167 b28 "com/example/titlepoint/titlepoint/FieldDefinition" "standardIndicator2" "Ljava/lang/String;" .null := c166.ext E167
  have hZ_167 := hZ
  have hown_167 := hown
  obtain ⟨rs195, T195, h195, k195, X195, e195, E195, S195, y195, hZ, hown, st195⟩ := ldcS (s := s) (vm0 := T167.vm) X167 hx hZ hown (hw _ (List.mem_of_getElem? (i := 5) rfl)) (own_wS hw) e167 S167 y167 (g := (mkF m 99 #[.val (.int p1), .val (.int p2), .val (.int p3), .val (.int p4), .val (.int p5), .val (.int (f0_v5 p1)), .val (.int ((p2 &&& (255 : Int32)).toUInt32.toUInt16.toUInt32.toInt32)), .val (.int ((p3 &&& (255 : Int32)).toUInt32.toUInt16.toUInt32.toInt32)), .val (.int ((p4 &&& (255 : Int32)).toUInt32.toUInt16.toUInt32.toInt32)), .val (.ref r6_0), .val (.int (f0_v51 p5)), .val (.ref r15_0), .val (.int (f0_s0_81 p1)), .unset, .unset, .unset] [(.ref rs167), (.ref rs139), (.ref rs111), (.int (f0_s0_81 p1)), (.ref rs83), (.ref rs55), (.ref b28), (.ref b28)])) rfl (hb hby at_99) (n := 16) (by decide) (by decide) (by decide) (by decide)
  have c196 : n0 ≤ h195.size := Nat.le_trans c168 E195.1
  have c197 : Sta Z h195 "java/lang/String" "COMPACT_STRINGS" "Z" (.int w_CS) := c169.ext E195
  have c198 : Sta Z h195 "com/example/titlepoint/titlepoint/FieldDefinition" "LEGACY_TITLE" "Lcom/example/titlepoint/titlepoint/FieldDefinition;" (.ref w_LEG) := c170.ext E195
  have c199 : Exa Z h195 w_LEG "com/example/titlepoint/titlepoint/FieldDefinition" := c171.ext E195
  have c200 : Fld Z h195 w_LEG "com/example/titlepoint/titlepoint/FieldDefinition" "entity" "Ljava/lang/String;" (.ref w_ent) := c172.ext E195
  have c201 : Exa Z h195 w_ent "java/lang/String" := c173.ext E195
  have c202 : Fld Z h195 w_ent "java/lang/String" "value" "[B" (.ref w_val) := c174.ext E195
  have c203 : IAr Z h195 w_val .byte z_w_val c_w_val := c175.ext E195
  have c204 : Exa Z h195 r6_0 "java/lang/String" := c176.ext E195
  have c205 : IAr Z h195 r6_1 .byte (f1w_x1n (f0_v5 p1) ((p2 &&& (255 : Int32)).toUInt32.toUInt16.toUInt32.toInt32) ((p3 &&& (255 : Int32)).toUInt32.toUInt16.toUInt32.toInt32) ((p4 &&& (255 : Int32)).toUInt32.toUInt16.toUInt32.toInt32) w_CS) (f1w_x1c (f0_v5 p1) ((p2 &&& (255 : Int32)).toUInt32.toUInt16.toUInt32.toInt32) ((p3 &&& (255 : Int32)).toUInt32.toUInt16.toUInt32.toInt32) ((p4 &&& (255 : Int32)).toUInt32.toUInt16.toUInt32.toInt32) w_CS) := c177.ext E195
  have c206 : Fld Z h195 r6_0 "java/lang/String" "value" "[B" (.ref r6_1) := c178.ext E195
  have c207 : k167 ≤ h195.size := Nat.le_trans y167 E195.1
  have c208 : Exa Z h195 b28 "com/example/titlepoint/titlepoint/FieldDefinition" := c180.ext E195
  have c209 : Fld Z h195 b28 "com/example/titlepoint/titlepoint/FieldDefinition" "tag" "Ljava/lang/String;" .null := c181.ext E195
  have c210 : Fld Z h195 b28 "com/example/titlepoint/titlepoint/FieldDefinition" "label" "Ljava/lang/String;" .null := c182.ext E195
  have c211 : Fld Z h195 b28 "com/example/titlepoint/titlepoint/FieldDefinition" "fieldRepeatable" "Z" (.int (0 : Int32)) := c183.ext E195
  have c212 : Fld Z h195 b28 "com/example/titlepoint/titlepoint/FieldDefinition" "indicator1" "Ljava/lang/String;" .null := c184.ext E195
  have c213 : Fld Z h195 b28 "com/example/titlepoint/titlepoint/FieldDefinition" "indicator2" "Ljava/lang/String;" .null := c185.ext E195
  have c214 : Fld Z h195 b28 "com/example/titlepoint/titlepoint/FieldDefinition" "work" "Ljava/lang/String;" .null := c186.ext E195
  have c215 : Fld Z h195 b28 "com/example/titlepoint/titlepoint/FieldDefinition" "expression" "Ljava/lang/String;" .null := c187.ext E195
  have c216 : Fld Z h195 b28 "com/example/titlepoint/titlepoint/FieldDefinition" "others" "Ljava/lang/String;" .null := c188.ext E195
  have c217 : Fld Z h195 b28 "com/example/titlepoint/titlepoint/FieldDefinition" "repeatable" "Ljava/lang/String;" .null := c189.ext E195
  have c218 : Fld Z h195 b28 "com/example/titlepoint/titlepoint/FieldDefinition" "required" "Ljava/lang/String;" .null := c190.ext E195
  have c219 : Fld Z h195 b28 "com/example/titlepoint/titlepoint/FieldDefinition" "subfieldLabels" "Ljava/util/Map;" .null := c191.ext E195
  have c220 : Fld Z h195 b28 "com/example/titlepoint/titlepoint/FieldDefinition" "entity" "Ljava/lang/String;" .null := c192.ext E195
  have c221 : Fld Z h195 b28 "com/example/titlepoint/titlepoint/FieldDefinition" "embeds" "Ljava/lang/String;" .null := c193.ext E195
  have c222 : Fld Z h195 b28 "com/example/titlepoint/titlepoint/FieldDefinition" "standardIndicator2" "Ljava/lang/String;" .null := c194.ext E195
  have hZ_195 := hZ
  have hown_195 := hown
  obtain ⟨rs223, T223, h223, k223, X223, e223, E223, S223, y223, hZ, hown, st223⟩ := ldcS (s := s) (vm0 := T195.vm) X195 hx hZ hown (hw _ (List.mem_of_getElem? (i := 5) rfl)) (own_wS hw) e195 S195 y195 (g := (mkF m 101 #[.val (.int p1), .val (.int p2), .val (.int p3), .val (.int p4), .val (.int p5), .val (.int (f0_v5 p1)), .val (.int ((p2 &&& (255 : Int32)).toUInt32.toUInt16.toUInt32.toInt32)), .val (.int ((p3 &&& (255 : Int32)).toUInt32.toUInt16.toUInt32.toInt32)), .val (.int ((p4 &&& (255 : Int32)).toUInt32.toUInt16.toUInt32.toInt32)), .val (.ref r6_0), .val (.int (f0_v51 p5)), .val (.ref r15_0), .val (.int (f0_s0_81 p1)), .unset, .unset, .unset] [(.ref rs195), (.ref rs167), (.ref rs139), (.ref rs111), (.int (f0_s0_81 p1)), (.ref rs83), (.ref rs55), (.ref b28), (.ref b28)])) rfl (hb hby at_101) (n := 16) (by decide) (by decide) (by decide) (by decide)
  have c224 : n0 ≤ h223.size := Nat.le_trans c196 E223.1
  have c225 : Sta Z h223 "java/lang/String" "COMPACT_STRINGS" "Z" (.int w_CS) := c197.ext E223
  have c226 : Sta Z h223 "com/example/titlepoint/titlepoint/FieldDefinition" "LEGACY_TITLE" "Lcom/example/titlepoint/titlepoint/FieldDefinition;" (.ref w_LEG) := c198.ext E223
  have c227 : Exa Z h223 w_LEG "com/example/titlepoint/titlepoint/FieldDefinition" := c199.ext E223
  have c228 : Fld Z h223 w_LEG "com/example/titlepoint/titlepoint/FieldDefinition" "entity" "Ljava/lang/String;" (.ref w_ent) := c200.ext E223
  have c229 : Exa Z h223 w_ent "java/lang/String" := c201.ext E223
  have c230 : Fld Z h223 w_ent "java/lang/String" "value" "[B" (.ref w_val) := c202.ext E223
  have c231 : IAr Z h223 w_val .byte z_w_val c_w_val := c203.ext E223
  have c232 : Exa Z h223 r6_0 "java/lang/String" := c204.ext E223
  have c233 : IAr Z h223 r6_1 .byte (f1w_x1n (f0_v5 p1) ((p2 &&& (255 : Int32)).toUInt32.toUInt16.toUInt32.toInt32) ((p3 &&& (255 : Int32)).toUInt32.toUInt16.toUInt32.toInt32) ((p4 &&& (255 : Int32)).toUInt32.toUInt16.toUInt32.toInt32) w_CS) (f1w_x1c (f0_v5 p1) ((p2 &&& (255 : Int32)).toUInt32.toUInt16.toUInt32.toInt32) ((p3 &&& (255 : Int32)).toUInt32.toUInt16.toUInt32.toInt32) ((p4 &&& (255 : Int32)).toUInt32.toUInt16.toUInt32.toInt32) w_CS) := c205.ext E223
  have c234 : Fld Z h223 r6_0 "java/lang/String" "value" "[B" (.ref r6_1) := c206.ext E223
  have c235 : k195 ≤ h223.size := Nat.le_trans y195 E223.1
  have c236 : Exa Z h223 b28 "com/example/titlepoint/titlepoint/FieldDefinition" := c208.ext E223
  have c237 : Fld Z h223 b28 "com/example/titlepoint/titlepoint/FieldDefinition" "tag" "Ljava/lang/String;" .null := c209.ext E223
  have c238 : Fld Z h223 b28 "com/example/titlepoint/titlepoint/FieldDefinition" "label" "Ljava/lang/String;" .null := c210.ext E223
  have c239 : Fld Z h223 b28 "com/example/titlepoint/titlepoint/FieldDefinition" "fieldRepeatable" "Z" (.int (0 : Int32)) := c211.ext E223
  have c240 : Fld Z h223 b28 "com/example/titlepoint/titlepoint/FieldDefinition" "indicator1" "Ljava/lang/String;" .null := c212.ext E223
  have c241 : Fld Z h223 b28 "com/example/titlepoint/titlepoint/FieldDefinition" "indicator2" "Ljava/lang/String;" .null := c213.ext E223
  have c242 : Fld Z h223 b28 "com/example/titlepoint/titlepoint/FieldDefinition" "work" "Ljava/lang/String;" .null := c214.ext E223
  have c243 : Fld Z h223 b28 "com/example/titlepoint/titlepoint/FieldDefinition" "expression" "Ljava/lang/String;" .null := c215.ext E223
  have c244 : Fld Z h223 b28 "com/example/titlepoint/titlepoint/FieldDefinition" "others" "Ljava/lang/String;" .null := c216.ext E223
  have c245 : Fld Z h223 b28 "com/example/titlepoint/titlepoint/FieldDefinition" "repeatable" "Ljava/lang/String;" .null := c217.ext E223
  have c246 : Fld Z h223 b28 "com/example/titlepoint/titlepoint/FieldDefinition" "required" "Ljava/lang/String;" .null := c218.ext E223
  have c247 : Fld Z h223 b28 "com/example/titlepoint/titlepoint/FieldDefinition" "subfieldLabels" "Ljava/util/Map;" .null := c219.ext E223
  have c248 : Fld Z h223 b28 "com/example/titlepoint/titlepoint/FieldDefinition" "entity" "Ljava/lang/String;" .null := c220.ext E223
  have c249 : Fld Z h223 b28 "com/example/titlepoint/titlepoint/FieldDefinition" "embeds" "Ljava/lang/String;" .null := c221.ext E223
  have c250 : Fld Z h223 b28 "com/example/titlepoint/titlepoint/FieldDefinition" "standardIndicator2" "Ljava/lang/String;" .null := c222.ext E223
  have hZ_223 := hZ
  have hown_223 := hown
  obtain ⟨rs251, T251, h251, k251, X251, e251, E251, S251, y251, hZ, hown, st251⟩ := ldcS (s := s) (vm0 := T223.vm) X223 hx hZ hown (hw _ (List.mem_of_getElem? (i := 5) rfl)) (own_wS hw) e223 S223 y223 (g := (mkF m 103 #[.val (.int p1), .val (.int p2), .val (.int p3), .val (.int p4), .val (.int p5), .val (.int (f0_v5 p1)), .val (.int ((p2 &&& (255 : Int32)).toUInt32.toUInt16.toUInt32.toInt32)), .val (.int ((p3 &&& (255 : Int32)).toUInt32.toUInt16.toUInt32.toInt32)), .val (.int ((p4 &&& (255 : Int32)).toUInt32.toUInt16.toUInt32.toInt32)), .val (.ref r6_0), .val (.int (f0_v51 p5)), .val (.ref r15_0), .val (.int (f0_s0_81 p1)), .unset, .unset, .unset] [(.ref rs223), (.ref rs195), (.ref rs167), (.ref rs139), (.ref rs111), (.int (f0_s0_81 p1)), (.ref rs83), (.ref rs55), (.ref b28), (.ref b28)])) rfl (hb hby at_103) (n := 16) (by decide) (by decide) (by decide) (by decide)
  have c252 : n0 ≤ h251.size := Nat.le_trans c224 E251.1
  have c253 : Sta Z h251 "java/lang/String" "COMPACT_STRINGS" "Z" (.int w_CS) := c225.ext E251
  have c254 : Sta Z h251 "com/example/titlepoint/titlepoint/FieldDefinition" "LEGACY_TITLE" "Lcom/example/titlepoint/titlepoint/FieldDefinition;" (.ref w_LEG) := c226.ext E251
  have c255 : Exa Z h251 w_LEG "com/example/titlepoint/titlepoint/FieldDefinition" := c227.ext E251
  have c256 : Fld Z h251 w_LEG "com/example/titlepoint/titlepoint/FieldDefinition" "entity" "Ljava/lang/String;" (.ref w_ent) := c228.ext E251
  have c257 : Exa Z h251 w_ent "java/lang/String" := c229.ext E251
  have c258 : Fld Z h251 w_ent "java/lang/String" "value" "[B" (.ref w_val) := c230.ext E251
  have c259 : IAr Z h251 w_val .byte z_w_val c_w_val := c231.ext E251
  have c260 : Exa Z h251 r6_0 "java/lang/String" := c232.ext E251
  have c261 : IAr Z h251 r6_1 .byte (f1w_x1n (f0_v5 p1) ((p2 &&& (255 : Int32)).toUInt32.toUInt16.toUInt32.toInt32) ((p3 &&& (255 : Int32)).toUInt32.toUInt16.toUInt32.toInt32) ((p4 &&& (255 : Int32)).toUInt32.toUInt16.toUInt32.toInt32) w_CS) (f1w_x1c (f0_v5 p1) ((p2 &&& (255 : Int32)).toUInt32.toUInt16.toUInt32.toInt32) ((p3 &&& (255 : Int32)).toUInt32.toUInt16.toUInt32.toInt32) ((p4 &&& (255 : Int32)).toUInt32.toUInt16.toUInt32.toInt32) w_CS) := c233.ext E251
  have c262 : Fld Z h251 r6_0 "java/lang/String" "value" "[B" (.ref r6_1) := c234.ext E251
  have c263 : k223 ≤ h251.size := Nat.le_trans y223 E251.1
  have c264 : Exa Z h251 b28 "com/example/titlepoint/titlepoint/FieldDefinition" := c236.ext E251
  have c265 : Fld Z h251 b28 "com/example/titlepoint/titlepoint/FieldDefinition" "tag" "Ljava/lang/String;" .null := c237.ext E251
  have c266 : Fld Z h251 b28 "com/example/titlepoint/titlepoint/FieldDefinition" "label" "Ljava/lang/String;" .null := c238.ext E251
  have c267 : Fld Z h251 b28 "com/example/titlepoint/titlepoint/FieldDefinition" "fieldRepeatable" "Z" (.int (0 : Int32)) := c239.ext E251
  have c268 : Fld Z h251 b28 "com/example/titlepoint/titlepoint/FieldDefinition" "indicator1" "Ljava/lang/String;" .null := c240.ext E251
  have c269 : Fld Z h251 b28 "com/example/titlepoint/titlepoint/FieldDefinition" "indicator2" "Ljava/lang/String;" .null := c241.ext E251
  have c270 : Fld Z h251 b28 "com/example/titlepoint/titlepoint/FieldDefinition" "work" "Ljava/lang/String;" .null := c242.ext E251
  have c271 : Fld Z h251 b28 "com/example/titlepoint/titlepoint/FieldDefinition" "expression" "Ljava/lang/String;" .null := c243.ext E251
  have c272 : Fld Z h251 b28 "com/example/titlepoint/titlepoint/FieldDefinition" "others" "Ljava/lang/String;" .null := c244.ext E251
  have c273 : Fld Z h251 b28 "com/example/titlepoint/titlepoint/FieldDefinition" "repeatable" "Ljava/lang/String;" .null := c245.ext E251
  have c274 : Fld Z h251 b28 "com/example/titlepoint/titlepoint/FieldDefinition" "required" "Ljava/lang/String;" .null := c246.ext E251
  have c275 : Fld Z h251 b28 "com/example/titlepoint/titlepoint/FieldDefinition" "subfieldLabels" "Ljava/util/Map;" .null := c247.ext E251
  have c276 : Fld Z h251 b28 "com/example/titlepoint/titlepoint/FieldDefinition" "entity" "Ljava/lang/String;" .null := c248.ext E251
  have c277 : Fld Z h251 b28 "com/example/titlepoint/titlepoint/FieldDefinition" "embeds" "Ljava/lang/String;" .null := c249.ext E251
  have c278 : Fld Z h251 b28 "com/example/titlepoint/titlepoint/FieldDefinition" "standardIndicator2" "Ljava/lang/String;" .null := c250.ext E251
  have hZ_251 := hZ
  have hown_251 := hown
  obtain ⟨rs279, T279, h279, k279, X279, e279, E279, S279, y279, hZ, hown, st279⟩ := ldcS (s := s) (vm0 := T251.vm) X251 hx hZ hown (hw _ (List.mem_of_getElem? (i := 19) rfl)) (own_wS hw) e251 S251 y251 (g := (mkF m 105 #[.val (.int p1), .val (.int p2), .val (.int p3), .val (.int p4), .val (.int p5), .val (.int (f0_v5 p1)), .val (.int ((p2 &&& (255 : Int32)).toUInt32.toUInt16.toUInt32.toInt32)), .val (.int ((p3 &&& (255 : Int32)).toUInt32.toUInt16.toUInt32.toInt32)), .val (.int ((p4 &&& (255 : Int32)).toUInt32.toUInt16.toUInt32.toInt32)), .val (.ref r6_0), .val (.int (f0_v51 p5)), .val (.ref r15_0), .val (.int (f0_s0_81 p1)), .unset, .unset, .unset] [(.ref rs251), (.ref rs223), (.ref rs195), (.ref rs167), (.ref rs139), (.ref rs111), (.int (f0_s0_81 p1)), (.ref rs83), (.ref rs55), (.ref b28), (.ref b28)])) rfl (hb hby at_105) (n := 16) (by decide) (by decide) (by decide) (by decide)
  have c280 : n0 ≤ h279.size := Nat.le_trans c252 E279.1
  have c281 : Sta Z h279 "java/lang/String" "COMPACT_STRINGS" "Z" (.int w_CS) := c253.ext E279
  have c282 : Sta Z h279 "com/example/titlepoint/titlepoint/FieldDefinition" "LEGACY_TITLE" "Lcom/example/titlepoint/titlepoint/FieldDefinition;" (.ref w_LEG) := c254.ext E279
  have c283 : Exa Z h279 w_LEG "com/example/titlepoint/titlepoint/FieldDefinition" := c255.ext E279
  have c284 : Fld Z h279 w_LEG "com/example/titlepoint/titlepoint/FieldDefinition" "entity" "Ljava/lang/String;" (.ref w_ent) := c256.ext E279
  have c285 : Exa Z h279 w_ent "java/lang/String" := c257.ext E279
  have c286 : Fld Z h279 w_ent "java/lang/String" "value" "[B" (.ref w_val) := c258.ext E279
  have c287 : IAr Z h279 w_val .byte z_w_val c_w_val := c259.ext E279
  have c288 : Exa Z h279 r6_0 "java/lang/String" := c260.ext E279
  have c289 : IAr Z h279 r6_1 .byte (f1w_x1n (f0_v5 p1) ((p2 &&& (255 : Int32)).toUInt32.toUInt16.toUInt32.toInt32) ((p3 &&& (255 : Int32)).toUInt32.toUInt16.toUInt32.toInt32) ((p4 &&& (255 : Int32)).toUInt32.toUInt16.toUInt32.toInt32) w_CS) (f1w_x1c (f0_v5 p1) ((p2 &&& (255 : Int32)).toUInt32.toUInt16.toUInt32.toInt32) ((p3 &&& (255 : Int32)).toUInt32.toUInt16.toUInt32.toInt32) ((p4 &&& (255 : Int32)).toUInt32.toUInt16.toUInt32.toInt32) w_CS) := c261.ext E279
  have c290 : Fld Z h279 r6_0 "java/lang/String" "value" "[B" (.ref r6_1) := c262.ext E279
  have c291 : k251 ≤ h279.size := Nat.le_trans y251 E279.1
  have c292 : Exa Z h279 b28 "com/example/titlepoint/titlepoint/FieldDefinition" := c264.ext E279
  have c293 : Fld Z h279 b28 "com/example/titlepoint/titlepoint/FieldDefinition" "tag" "Ljava/lang/String;" .null := c265.ext E279
  have c294 : Fld Z h279 b28 "com/example/titlepoint/titlepoint/FieldDefinition" "label" "Ljava/lang/String;" .null := c266.ext E279
  have c295 : Fld Z h279 b28 "com/example/titlepoint/titlepoint/FieldDefinition" "fieldRepeatable" "Z" (.int (0 : Int32)) := c267.ext E279
  have c296 : Fld Z h279 b28 "com/example/titlepoint/titlepoint/FieldDefinition" "indicator1" "Ljava/lang/String;" .null := c268.ext E279
  have c297 : Fld Z h279 b28 "com/example/titlepoint/titlepoint/FieldDefinition" "indicator2" "Ljava/lang/String;" .null := c269.ext E279
  have c298 : Fld Z h279 b28 "com/example/titlepoint/titlepoint/FieldDefinition" "work" "Ljava/lang/String;" .null := c270.ext E279
  have c299 : Fld Z h279 b28 "com/example/titlepoint/titlepoint/FieldDefinition" "expression" "Ljava/lang/String;" .null := c271.ext E279
  have c300 : Fld Z h279 b28 "com/example/titlepoint/titlepoint/FieldDefinition" "others" "Ljava/lang/String;" .null := c272.ext E279
  have c301 : Fld Z h279 b28 "com/example/titlepoint/titlepoint/FieldDefinition" "repeatable" "Ljava/lang/String;" .null := c273.ext E279
  have c302 : Fld Z h279 b28 "com/example/titlepoint/titlepoint/FieldDefinition" "required" "Ljava/lang/String;" .null := c274.ext E279
  have c303 : Fld Z h279 b28 "com/example/titlepoint/titlepoint/FieldDefinition" "subfieldLabels" "Ljava/util/Map;" .null := c275.ext E279
  have c304 : Fld Z h279 b28 "com/example/titlepoint/titlepoint/FieldDefinition" "entity" "Ljava/lang/String;" .null := c276.ext E279
  have c305 : Fld Z h279 b28 "com/example/titlepoint/titlepoint/FieldDefinition" "embeds" "Ljava/lang/String;" .null := c277.ext E279
  have c306 : Fld Z h279 b28 "com/example/titlepoint/titlepoint/FieldDefinition" "standardIndicator2" "Ljava/lang/String;" .null := c278.ext E279
  have hZ_279 := hZ
  have hown_279 := hown
  obtain ⟨rs307, T307, h307, k307, X307, e307, E307, S307, y307, hZ, hown, st307⟩ := ldcS (s := s) (vm0 := T279.vm) X279 hx hZ hown (hw _ (List.mem_of_getElem? (i := 5) rfl)) (own_wS hw) e279 S279 y279 (g := (mkF m 112 #[.val (.int p1), .val (.int p2), .val (.int p3), .val (.int p4), .val (.int p5), .val (.int (f0_v5 p1)), .val (.int ((p2 &&& (255 : Int32)).toUInt32.toUInt16.toUInt32.toInt32)), .val (.int ((p3 &&& (255 : Int32)).toUInt32.toUInt16.toUInt32.toInt32)), .val (.int ((p4 &&& (255 : Int32)).toUInt32.toUInt16.toUInt32.toInt32)), .val (.ref r6_0), .val (.int (f0_v51 p5)), .val (.ref r15_0), .val (.int (f0_s0_81 p1)), .unset, .unset, .unset] [(.ref r15_0), (.ref r6_0), .null, (.ref rs279), (.ref rs251), (.ref rs223), (.ref rs195), (.ref rs167), (.ref rs139), (.ref rs111), (.int (f0_s0_81 p1)), (.ref rs83), (.ref rs55), (.ref b28), (.ref b28)])) rfl (hb hby at_112) (n := 16) (by decide) (by decide) (by decide) (by decide)
  have c308 : n0 ≤ h307.size := Nat.le_trans c280 E307.1
  have c309 : Sta Z h307 "java/lang/String" "COMPACT_STRINGS" "Z" (.int w_CS) := c281.ext E307
  have c310 : Sta Z h307 "com/example/titlepoint/titlepoint/FieldDefinition" "LEGACY_TITLE" "Lcom/example/titlepoint/titlepoint/FieldDefinition;" (.ref w_LEG) := c282.ext E307
  have c311 : Exa Z h307 w_LEG "com/example/titlepoint/titlepoint/FieldDefinition" := c283.ext E307
  have c312 : Fld Z h307 w_LEG "com/example/titlepoint/titlepoint/FieldDefinition" "entity" "Ljava/lang/String;" (.ref w_ent) := c284.ext E307
  have c313 : Exa Z h307 w_ent "java/lang/String" := c285.ext E307
  have c314 : Fld Z h307 w_ent "java/lang/String" "value" "[B" (.ref w_val) := c286.ext E307
  have c315 : IAr Z h307 w_val .byte z_w_val c_w_val := c287.ext E307
  have c316 : Exa Z h307 r6_0 "java/lang/String" := c288.ext E307
  have c317 : IAr Z h307 r6_1 .byte (f1w_x1n (f0_v5 p1) ((p2 &&& (255 : Int32)).toUInt32.toUInt16.toUInt32.toInt32) ((p3 &&& (255 : Int32)).toUInt32.toUInt16.toUInt32.toInt32) ((p4 &&& (255 : Int32)).toUInt32.toUInt16.toUInt32.toInt32) w_CS) (f1w_x1c (f0_v5 p1) ((p2 &&& (255 : Int32)).toUInt32.toUInt16.toUInt32.toInt32) ((p3 &&& (255 : Int32)).toUInt32.toUInt16.toUInt32.toInt32) ((p4 &&& (255 : Int32)).toUInt32.toUInt16.toUInt32.toInt32) w_CS) := c289.ext E307
  have c318 : Fld Z h307 r6_0 "java/lang/String" "value" "[B" (.ref r6_1) := c290.ext E307
  have c319 : k279 ≤ h307.size := Nat.le_trans y279 E307.1
  have c320 : Exa Z h307 b28 "com/example/titlepoint/titlepoint/FieldDefinition" := c292.ext E307
  have c321 : Fld Z h307 b28 "com/example/titlepoint/titlepoint/FieldDefinition" "tag" "Ljava/lang/String;" .null := c293.ext E307
  have c322 : Fld Z h307 b28 "com/example/titlepoint/titlepoint/FieldDefinition" "label" "Ljava/lang/String;" .null := c294.ext E307
  have c323 : Fld Z h307 b28 "com/example/titlepoint/titlepoint/FieldDefinition" "fieldRepeatable" "Z" (.int (0 : Int32)) := c295.ext E307
  have c324 : Fld Z h307 b28 "com/example/titlepoint/titlepoint/FieldDefinition" "indicator1" "Ljava/lang/String;" .null := c296.ext E307
  have c325 : Fld Z h307 b28 "com/example/titlepoint/titlepoint/FieldDefinition" "indicator2" "Ljava/lang/String;" .null := c297.ext E307
  have c326 : Fld Z h307 b28 "com/example/titlepoint/titlepoint/FieldDefinition" "work" "Ljava/lang/String;" .null := c298.ext E307
  have c327 : Fld Z h307 b28 "com/example/titlepoint/titlepoint/FieldDefinition" "expression" "Ljava/lang/String;" .null := c299.ext E307
  have c328 : Fld Z h307 b28 "com/example/titlepoint/titlepoint/FieldDefinition" "others" "Ljava/lang/String;" .null := c300.ext E307
  have c329 : Fld Z h307 b28 "com/example/titlepoint/titlepoint/FieldDefinition" "repeatable" "Ljava/lang/String;" .null := c301.ext E307
  have c330 : Fld Z h307 b28 "com/example/titlepoint/titlepoint/FieldDefinition" "required" "Ljava/lang/String;" .null := c302.ext E307
  have c331 : Fld Z h307 b28 "com/example/titlepoint/titlepoint/FieldDefinition" "subfieldLabels" "Ljava/util/Map;" .null := c303.ext E307
  have c332 : Fld Z h307 b28 "com/example/titlepoint/titlepoint/FieldDefinition" "entity" "Ljava/lang/String;" .null := c304.ext E307
  have c333 : Fld Z h307 b28 "com/example/titlepoint/titlepoint/FieldDefinition" "embeds" "Ljava/lang/String;" .null := c305.ext E307
  have c334 : Fld Z h307 b28 "com/example/titlepoint/titlepoint/FieldDefinition" "standardIndicator2" "Ljava/lang/String;" .null := c306.ext E307
  have hZ_307 := hZ
  have hown_307 := hown
  obtain ⟨_, _, ⟨T335, L335, k335, n335⟩, -, X335, ⟨Lc335, hQ335, l335, y335, z335⟩, st335⟩ := X307.specialBack hx (y := (⟨"com/example/titlepoint/titlepoint/FieldDefinition", "<init>", "(Ljava/lang/String;Ljava/lang/String;ZLjava/lang/String;Ljava/lang/String;Ljava/lang/String;Ljava/lang/String;Ljava/lang/String;Ljava/lang/String;Ljava/lang/String;Ljava/util/Map;Ljava/lang/String;Ljava/lang/String;Ljava/lang/String;)V"⟩ : MethodName)) rfl hown (mvT hZ (hw _ (List.mem_of_getElem? (i := 20) rfl))) (mvT hZ (hw _ (List.mem_of_getElem? (i := 21) rfl))) (mvT hZ (hw _ (List.mem_of_getElem? (i := 22) rfl))) (by decide) (backOf (W := 1) (rm2 l Z a0 hw [] b28 rs55 rs83 (f0_s0_81 p1) rs111 rs139 rs167 rs195 rs223 rs251 rs279 r6_0 r15_0 rs307 (0 : Int32) h307 n0 c308 c320 g_b28 c321 c322 c323 c324 c325 c326 c327 c328 c329 c330 c331 c332 c333 c334) hZ (hw _ (List.mem_of_getElem? (i := 22) rfl)) (hw _ (List.mem_of_getElem? (i := 15) rfl)) (by decide) (by decide)) (g := (mkF m 114 #[.val (.int p1), .val (.int p2), .val (.int p3), .val (.int p4), .val (.int p5), .val (.int (f0_v5 p1)), .val (.int ((p2 &&& (255 : Int32)).toUInt32.toUInt16.toUInt32.toInt32)), .val (.int ((p3 &&& (255 : Int32)).toUInt32.toUInt16.toUInt32.toInt32)), .val (.int ((p4 &&& (255 : Int32)).toUInt32.toUInt16.toUInt32.toInt32)), .val (.ref r6_0), .val (.int (f0_v51 p5)), .val (.ref r15_0), .val (.int (f0_s0_81 p1)), .unset, .unset, .unset] [(.ref rs307), (.ref r15_0), (.ref r6_0), .null, (.ref rs279), (.ref rs251), (.ref rs223), (.ref rs195), (.ref rs167), (.ref rs139), (.ref rs111), (.int (f0_s0_81 p1)), (.ref rs83), (.ref rs55), (.ref b28), (.ref b28)])) rfl (by rw [hml]; rfl) (Steps.refl _) (a := b28) (argsL := [(.ref rs55), (.ref rs83), (.int (f0_s0_81 p1)), (.ref rs111), (.ref rs139), (.ref rs167), (.ref rs195), (.ref rs223), (.ref rs251), (.ref rs279), .null, (.ref r6_0), (.ref r15_0), (.ref rs307)]) (rest := [(.ref b28)]) (lenOf pd_12 rfl) rfl (by show 2 * 0 + _ ≤ _; exact Nat.le_of_eq rfl) (hb hby at_114) (fun _ _ => ⟨rfl, e307, (by decide : 27 + 0 ≤ _), (by decide : 254 + 0 ≤ _)⟩)
  dsimp only [Pt.U, Pt.locs, Pt.cells, Pt.slots] at X335 l335 y335 z335 st335 hQ335
  subst l335 y335 z335
  obtain ⟨rfl, N335q, K335, o335_0, o335_1, o335_2, o335_3, o335_4, o335_5, o335_6, o335_7, o335_8, o335_9, o335_10, o335_11, o335_12, o335_13⟩ := hQ335
  have N335 := Fr.app N15 N335q
  have c336 : n0 ≤ T335.heap.size := Nat.le_trans c308 K335.1
  have c337 : Sta Z T335.heap "java/lang/String" "COMPACT_STRINGS" "Z" (.int w_CS) := own_staK c309 K335 (own_nsS (Exa.nostat c320) own_ns0)
  have c338 : Sta Z T335.heap "com/example/titlepoint/titlepoint/FieldDefinition" "LEGACY_TITLE" "Lcom/example/titlepoint/titlepoint/FieldDefinition;" (.ref w_LEG) := own_staK c310 K335 (own_nsS (Exa.nostat c320) own_ns0)
  have c339 : Exa Z T335.heap w_LEG "com/example/titlepoint/titlepoint/FieldDefinition" := c311.keep K335
  have c340 : Fld Z T335.heap w_LEG "com/example/titlepoint/titlepoint/FieldDefinition" "entity" "Ljava/lang/String;" (.ref w_ent) := c312.keep K335 (ninS ne_w_LEG_b28 nin0)
  have c341 : Exa Z T335.heap w_ent "java/lang/String" := c313.keep K335
  have c342 : Fld Z T335.heap w_ent "java/lang/String" "value" "[B" (.ref w_val) := c314.keep K335 (ninS ne_w_ent_b28 nin0)
  have c343 : IAr Z T335.heap w_val .byte z_w_val c_w_val := c315.keep K335 (ninS ne_w_val_b28 nin0)
  have c344 : Exa Z T335.heap r6_0 "java/lang/String" := c316.keep K335
  have c345 : IAr Z T335.heap r6_1 .byte (f1w_x1n (f0_v5 p1) ((p2 &&& (255 : Int32)).toUInt32.toUInt16.toUInt32.toInt32) ((p3 &&& (255 : Int32)).toUInt32.toUInt16.toUInt32.toInt32) ((p4 &&& (255 : Int32)).toUInt32.toUInt16.toUInt32.toInt32) w_CS) (f1w_x1c (f0_v5 p1) ((p2 &&& (255 : Int32)).toUInt32.toUInt16.toUInt32.toInt32) ((p3 &&& (255 : Int32)).toUInt32.toUInt16.toUInt32.toInt32) ((p4 &&& (255 : Int32)).toUInt32.toUInt16.toUInt32.toInt32) w_CS) := c317.keep K335 (ninS ne_r6_1_b28 nin0)
  have c346 : Fld Z T335.heap r6_0 "java/lang/String" "value" "[B" (.ref r6_1) := c318.keep K335 (ninS ne_r6_0_b28 nin0)
  have c347 : k307 ≤ T335.heap.size := Nat.le_trans y307 K335.1
  have c348 : Exa Z T335.heap b28 "com/example/titlepoint/titlepoint/FieldDefinition" := c320.keep K335
  have c349 : Fld Z T335.heap b28 "com/example/titlepoint/titlepoint/FieldDefinition" "tag" "Ljava/lang/String;" (.ref rs55) := o335_0
  have c350 : Fld Z T335.heap b28 "com/example/titlepoint/titlepoint/FieldDefinition" "label" "Ljava/lang/String;" (.ref rs83) := o335_1
  have c351 : Fld Z T335.heap b28 "com/example/titlepoint/titlepoint/FieldDefinition" "fieldRepeatable" "Z" (.int (f2_o2 (f0_s0_81 p1) (0 : Int32))) := o335_2
  have c352 : Fld Z T335.heap b28 "com/example/titlepoint/titlepoint/FieldDefinition" "indicator1" "Ljava/lang/String;" (.ref rs111) := o335_3
  have c353 : Fld Z T335.heap b28 "com/example/titlepoint/titlepoint/FieldDefinition" "indicator2" "Ljava/lang/String;" (.ref rs139) := o335_4
  have c354 : Fld Z T335.heap b28 "com/example/titlepoint/titlepoint/FieldDefinition" "work" "Ljava/lang/String;" (.ref rs167) := o335_5
  have c355 : Fld Z T335.heap b28 "com/example/titlepoint/titlepoint/FieldDefinition" "expression" "Ljava/lang/String;" (.ref rs195) := o335_6
  have c356 : Fld Z T335.heap b28 "com/example/titlepoint/titlepoint/FieldDefinition" "others" "Ljava/lang/String;" (.ref rs223) := o335_7
  have c357 : Fld Z T335.heap b28 "com/example/titlepoint/titlepoint/FieldDefinition" "repeatable" "Ljava/lang/String;" (.ref rs251) := o335_8
  have c358 : Fld Z T335.heap b28 "com/example/titlepoint/titlepoint/FieldDefinition" "required" "Ljava/lang/String;" (.ref rs279) := o335_9
  have c359 : Fld Z T335.heap b28 "com/example/titlepoint/titlepoint/FieldDefinition" "subfieldLabels" "Ljava/util/Map;" .null := o335_10
  have c360 : Fld Z T335.heap b28 "com/example/titlepoint/titlepoint/FieldDefinition" "entity" "Ljava/lang/String;" (.ref r6_0) := o335_11
  have c361 : Fld Z T335.heap b28 "com/example/titlepoint/titlepoint/FieldDefinition" "embeds" "Ljava/lang/String;" (.ref r15_0) := o335_12
  have c362 : Fld Z T335.heap b28 "com/example/titlepoint/titlepoint/FieldDefinition" "standardIndicator2" "Ljava/lang/String;" (.ref rs307) := o335_13
  have pre5 : ∀ t, Steps p.tables e below (T335.setTop (mkF m 121 #[.val (.int p1), .val (.int p2), .val (.int p3), .val (.int p4), .val (.int p5), .val (.int (f0_v5 p1)), .val (.int ((p2 &&& (255 : Int32)).toUInt32.toUInt16.toUInt32.toInt32)), .val (.int ((p3 &&& (255 : Int32)).toUInt32.toUInt16.toUInt32.toInt32)), .val (.int ((p4 &&& (255 : Int32)).toUInt32.toUInt16.toUInt32.toInt32)), .val (.ref r6_0), .val (.int (f0_v51 p5)), .val (.ref r15_0), .val (.int (f0_s0_81 p1)), .val (.ref b28), .unset, .unset] [(.int (f0_v5 p1))])) t → Steps p.tables e below (s₁.setTop (entryFrame m #[(.int p1), (.int p2), (.int p3), (.int p4), (.int p5)] maxLocals)) t := by
    intro t k
    refine pre2 t ?_
    show Steps p.tables e below (T15.setTop (mkF m 81 #[.val (.int p1), .val (.int p2), .val (.int p3), .val (.int p4), .val (.int p5), .val (.int (f0_v5 p1)), .val (.int ((p2 &&& (255 : Int32)).toUInt32.toUInt16.toUInt32.toInt32)), .val (.int ((p3 &&& (255 : Int32)).toUInt32.toUInt16.toUInt32.toInt32)), .val (.int ((p4 &&& (255 : Int32)).toUInt32.toUInt16.toUInt32.toInt32)), .val (.ref r6_0), .val (.int (f0_v51 p5)), .val (.ref r15_0), .unset, .unset, .unset, .unset] [(.int (f0_s0_81 p1))])) _
    refine XS.istore X15.here hx rfl (hb hby at_81) rfl (l' := #[.val (.int p1), .val (.int p2), .val (.int p3), .val (.int p4), .val (.int p5), .val (.int (f0_v5 p1)), .val (.int ((p2 &&& (255 : Int32)).toUInt32.toUInt16.toUInt32.toInt32)), .val (.int ((p3 &&& (255 : Int32)).toUInt32.toUInt16.toUInt32.toInt32)), .val (.int ((p4 &&& (255 : Int32)).toUInt32.toUInt16.toUInt32.toInt32)), .val (.ref r6_0), .val (.int (f0_v51 p5)), .val (.ref r15_0), .val (.int (f0_s0_81 p1)), .unset, .unset, .unset]) rfl ?_
    show Steps p.tables e below (T15.setTop (mkF m 83 #[.val (.int p1), .val (.int p2), .val (.int p3), .val (.int p4), .val (.int p5), .val (.int (f0_v5 p1)), .val (.int ((p2 &&& (255 : Int32)).toUInt32.toUInt16.toUInt32.toInt32)), .val (.int ((p3 &&& (255 : Int32)).toUInt32.toUInt16.toUInt32.toInt32)), .val (.int ((p4 &&& (255 : Int32)).toUInt32.toUInt16.toUInt32.toInt32)), .val (.ref r6_0), .val (.int (f0_v51 p5)), .val (.ref r15_0), .val (.int (f0_s0_81 p1)), .unset, .unset, .unset] [])) _
    refine st28 _ ?_
    show Steps p.tables e below (T28.setTop (mkF m 86 #[.val (.int p1), .val (.int p2), .val (.int p3), .val (.int p4), .val (.int p5), .val (.int (f0_v5 p1)), .val (.int ((p2 &&& (255 : Int32)).toUInt32.toUInt16.toUInt32.toInt32)), .val (.int ((p3 &&& (255 : Int32)).toUInt32.toUInt16.toUInt32.toInt32)), .val (.int ((p4 &&& (255 : Int32)).toUInt32.toUInt16.toUInt32.toInt32)), .val (.ref r6_0), .val (.int (f0_v51 p5)), .val (.ref r15_0), .val (.int (f0_s0_81 p1)), .unset, .unset, .unset] [(.ref b28)])) _
    refine XS.dup X28.here hx rfl (hb hby at_86) rfl rfl ?_
    show Steps p.tables e below (T28.setTop (mkF m 87 #[.val (.int p1), .val (.int p2), .val (.int p3), .val (.int p4), .val (.int p5), .val (.int (f0_v5 p1)), .val (.int ((p2 &&& (255 : Int32)).toUInt32.toUInt16.toUInt32.toInt32)), .val (.int ((p3 &&& (255 : Int32)).toUInt32.toUInt16.toUInt32.toInt32)), .val (.int ((p4 &&& (255 : Int32)).toUInt32.toUInt16.toUInt32.toInt32)), .val (.ref r6_0), .val (.int (f0_v51 p5)), .val (.ref r15_0), .val (.int (f0_s0_81 p1)), .unset, .unset, .unset] [(.ref b28), (.ref b28)])) _
    refine st55 _ ?_
    show Steps p.tables e below (T55.setTop (mkF m 89 #[.val (.int p1), .val (.int p2), .val (.int p3), .val (.int p4), .val (.int p5), .val (.int (f0_v5 p1)), .val (.int ((p2 &&& (255 : Int32)).toUInt32.toUInt16.toUInt32.toInt32)), .val (.int ((p3 &&& (255 : Int32)).toUInt32.toUInt16.toUInt32.toInt32)), .val (.int ((p4 &&& (255 : Int32)).toUInt32.toUInt16.toUInt32.toInt32)), .val (.ref r6_0), .val (.int (f0_v51 p5)), .val (.ref r15_0), .val (.int (f0_s0_81 p1)), .unset, .unset, .unset] [(.ref rs55), (.ref b28), (.ref b28)])) _
    refine st83 _ ?_
    show Steps p.tables e below (T83.setTop (mkF m 91 #[.val (.int p1), .val (.int p2), .val (.int p3), .val (.int p4), .val (.int p5), .val (.int (f0_v5 p1)), .val (.int ((p2 &&& (255 : Int32)).toUInt32.toUInt16.toUInt32.toInt32)), .val (.int ((p3 &&& (255 : Int32)).toUInt32.toUInt16.toUInt32.toInt32)), .val (.int ((p4 &&& (255 : Int32)).toUInt32.toUInt16.toUInt32.toInt32)), .val (.ref r6_0), .val (.int (f0_v51 p5)), .val (.ref r15_0), .val (.int (f0_s0_81 p1)), .unset, .unset, .unset] [(.ref rs83), (.ref rs55), (.ref b28), (.ref b28)])) _
    refine XS.iload X83.here hx rfl (hb hby at_91) rfl ?_
    show Steps p.tables e below (T83.setTop (mkF m 93 #[.val (.int p1), .val (.int p2), .val (.int p3), .val (.int p4), .val (.int p5), .val (.int (f0_v5 p1)), .val (.int ((p2 &&& (255 : Int32)).toUInt32.toUInt16.toUInt32.toInt32)), .val (.int ((p3 &&& (255 : Int32)).toUInt32.toUInt16.toUInt32.toInt32)), .val (.int ((p4 &&& (255 : Int32)).toUInt32.toUInt16.toUInt32.toInt32)), .val (.ref r6_0), .val (.int (f0_v51 p5)), .val (.ref r15_0), .val (.int (f0_s0_81 p1)), .unset, .unset, .unset] [(.int (f0_s0_81 p1)), (.ref rs83), (.ref rs55), (.ref b28), (.ref b28)])) _
    refine st111 _ ?_
    show Steps p.tables e below (T111.setTop (mkF m 95 #[.val (.int p1), .val (.int p2), .val (.int p3), .val (.int p4), .val (.int p5), .val (.int (f0_v5 p1)), .val (.int ((p2 &&& (255 : Int32)).toUInt32.toUInt16.toUInt32.toInt32)), .val (.int ((p3 &&& (255 : Int32)).toUInt32.toUInt16.toUInt32.toInt32)), .val (.int ((p4 &&& (255 : Int32)).toUInt32.toUInt16.toUInt32.toInt32)), .val (.ref r6_0), .val (.int (f0_v51 p5)), .val (.ref r15_0), .val (.int (f0_s0_81 p1)), .unset, .unset, .unset] [(.ref rs111), (.int (f0_s0_81 p1)), (.ref rs83), (.ref rs55), (.ref b28), (.ref b28)])) _
    refine st139 _ ?_
    show Steps p.tables e below (T139.setTop (mkF m 97 #[.val (.int p1), .val (.int p2), .val (.int p3), .val (.int p4), .val (.int p5), .val (.int (f0_v5 p1)), .val (.int ((p2 &&& (255 : Int32)).toUInt32.toUInt16.toUInt32.toInt32)), .val (.int ((p3 &&& (255 : Int32)).toUInt32.toUInt16.toUInt32.toInt32)), .val (.int ((p4 &&& (255 : Int32)).toUInt32.toUInt16.toUInt32.toInt32)), .val (.ref r6_0), .val (.int (f0_v51 p5)), .val (.ref r15_0), .val (.int (f0_s0_81 p1)), .unset, .unset, .unset] [(.ref rs139), (.ref rs111), (.int (f0_s0_81 p1)), (.ref rs83), (.ref rs55), (.ref b28), (.ref b28)])) _
    refine st167 _ ?_
    show Steps p.tables e below (T167.setTop (mkF m 99 #[.val (.int p1), .val (.int p2), .val (.int p3), .val (.int p4), .val (.int p5), .val (.int (f0_v5 p1)), .val (.int ((p2 &&& (255 : Int32)).toUInt32.toUInt16.toUInt32.toInt32)), .val (.int ((p3 &&& (255 : Int32)).toUInt32.toUInt16.toUInt32.toInt32)), .val (.int ((p4 &&& (255 : Int32)).toUInt32.toUInt16.toUInt32.toInt32)), .val (.ref r6_0), .val (.int (f0_v51 p5)), .val (.ref r15_0), .val (.int (f0_s0_81 p1)), .unset, .unset, .unset] [(.ref rs167), (.ref rs139), (.ref rs111), (.int (f0_s0_81 p1)), (.ref rs83), (.ref rs55), (.ref b28), (.ref b28)])) _
    refine st195 _ ?_
    show Steps p.tables e below (T195.setTop (mkF m 101 #[.val (.int p1), .val (.int p2), .val (.int p3), .val (.int p4), .val (.int p5), .val (.int (f0_v5 p1)), .val (.int ((p2 &&& (255 : Int32)).toUInt32.toUInt16.toUInt32.toInt32)), .val (.int ((p3 &&& (255 : Int32)).toUInt32.toUInt16.toUInt32.toInt32)), .val (.int ((p4 &&& (255 : Int32)).toUInt32.toUInt16.toUInt32.toInt32)), .val (.ref r6_0), .val (.int (f0_v51 p5)), .val (.ref r15_0), .val (.int (f0_s0_81 p1)), .unset, .unset, .unset] [(.ref rs195), (.ref rs167), (.ref rs139), (.ref rs111), (.int (f0_s0_81 p1)), (.ref rs83), (.ref rs55), (.ref b28), (.ref b28)])) _
    refine st223 _ ?_
    show Steps p.tables e below (T223.setTop (mkF m 103 #[.val (.int p1), .val (.int p2), .val (.int p3), .val (.int p4), .val (.int p5), .val (.int (f0_v5 p1)), .val (.int ((p2 &&& (255 : Int32)).toUInt32.toUInt16.toUInt32.toInt32)), .val (.int ((p3 &&& (255 : Int32)).toUInt32.toUInt16.toUInt32.toInt32)), .val (.int ((p4 &&& (255 : Int32)).toUInt32.toUInt16.toUInt32.toInt32)), .val (.ref r6_0), .val (.int (f0_v51 p5)), .val (.ref r15_0), .val (.int (f0_s0_81 p1)), .unset, .unset, .unset] [(.ref rs223), (.ref rs195), (.ref rs167), (.ref rs139), (.ref rs111), (.int (f0_s0_81 p1)), (.ref rs83), (.ref rs55), (.ref b28), (.ref b28)])) _
    refine st251 _ ?_
    show Steps p.tables e below (T251.setTop (mkF m 105 #[.val (.int p1), .val (.int p2), .val (.int p3), .val (.int p4), .val (.int p5), .val (.int (f0_v5 p1)), .val (.int ((p2 &&& (255 : Int32)).toUInt32.toUInt16.toUInt32.toInt32)), .val (.int ((p3 &&& (255 : Int32)).toUInt32.toUInt16.toUInt32.toInt32)), .val (.int ((p4 &&& (255 : Int32)).toUInt32.toUInt16.toUInt32.toInt32)), .val (.ref r6_0), .val (.int (f0_v51 p5)), .val (.ref r15_0), .val (.int (f0_s0_81 p1)), .unset, .unset, .unset] [(.ref rs251), (.ref rs223), (.ref rs195), (.ref rs167), (.ref rs139), (.ref rs111), (.int (f0_s0_81 p1)), (.ref rs83), (.ref rs55), (.ref b28), (.ref b28)])) _
    refine st279 _ ?_
    show Steps p.tables e below (T279.setTop (mkF m 107 #[.val (.int p1), .val (.int p2), .val (.int p3), .val (.int p4), .val (.int p5), .val (.int (f0_v5 p1)), .val (.int ((p2 &&& (255 : Int32)).toUInt32.toUInt16.toUInt32.toInt32)), .val (.int ((p3 &&& (255 : Int32)).toUInt32.toUInt16.toUInt32.toInt32)), .val (.int ((p4 &&& (255 : Int32)).toUInt32.toUInt16.toUInt32.toInt32)), .val (.ref r6_0), .val (.int (f0_v51 p5)), .val (.ref r15_0), .val (.int (f0_s0_81 p1)), .unset, .unset, .unset] [(.ref rs279), (.ref rs251), (.ref rs223), (.ref rs195), (.ref rs167), (.ref rs139), (.ref rs111), (.int (f0_s0_81 p1)), (.ref rs83), (.ref rs55), (.ref b28), (.ref b28)])) _
    refine XS.aconstNull X279.here hx rfl (hb hby at_107) ?_
    show Steps p.tables e below (T279.setTop (mkF m 108 #[.val (.int p1), .val (.int p2), .val (.int p3), .val (.int p4), .val (.int p5), .val (.int (f0_v5 p1)), .val (.int ((p2 &&& (255 : Int32)).toUInt32.toUInt16.toUInt32.toInt32)), .val (.int ((p3 &&& (255 : Int32)).toUInt32.toUInt16.toUInt32.toInt32)), .val (.int ((p4 &&& (255 : Int32)).toUInt32.toUInt16.toUInt32.toInt32)), .val (.ref r6_0), .val (.int (f0_v51 p5)), .val (.ref r15_0), .val (.int (f0_s0_81 p1)), .unset, .unset, .unset] [.null, (.ref rs279), (.ref rs251), (.ref rs223), (.ref rs195), (.ref rs167), (.ref rs139), (.ref rs111), (.int (f0_s0_81 p1)), (.ref rs83), (.ref rs55), (.ref b28), (.ref b28)])) _
    refine XS.aload X279.here hx rfl (hb hby at_108) rfl rfl ?_
    show Steps p.tables e below (T279.setTop (mkF m 110 #[.val (.int p1), .val (.int p2), .val (.int p3), .val (.int p4), .val (.int p5), .val (.int (f0_v5 p1)), .val (.int ((p2 &&& (255 : Int32)).toUInt32.toUInt16.toUInt32.toInt32)), .val (.int ((p3 &&& (255 : Int32)).toUInt32.toUInt16.toUInt32.toInt32)), .val (.int ((p4 &&& (255 : Int32)).toUInt32.toUInt16.toUInt32.toInt32)), .val (.ref r6_0), .val (.int (f0_v51 p5)), .val (.ref r15_0), .val (.int (f0_s0_81 p1)), .unset, .unset, .unset] [(.ref r6_0), .null, (.ref rs279), (.ref rs251), (.ref rs223), (.ref rs195), (.ref rs167), (.ref rs139), (.ref rs111), (.int (f0_s0_81 p1)), (.ref rs83), (.ref rs55), (.ref b28), (.ref b28)])) _
    refine XS.aload X279.here hx rfl (hb hby at_110) rfl rfl ?_
    show Steps p.tables e below (T279.setTop (mkF m 112 #[.val (.int p1), .val (.int p2), .val (.int p3), .val (.int p4), .val (.int p5), .val (.int (f0_v5 p1)), .val (.int ((p2 &&& (255 : Int32)).toUInt32.toUInt16.toUInt32.toInt32)), .val (.int ((p3 &&& (255 : Int32)).toUInt32.toUInt16.toUInt32.toInt32)), .val (.int ((p4 &&& (255 : Int32)).toUInt32.toUInt16.toUInt32.toInt32)), .val (.ref r6_0), .val (.int (f0_v51 p5)), .val (.ref r15_0), .val (.int (f0_s0_81 p1)), .unset, .unset, .unset] [(.ref r15_0), (.ref r6_0), .null, (.ref rs279), (.ref rs251), (.ref rs223), (.ref rs195), (.ref rs167), (.ref rs139), (.ref rs111), (.int (f0_s0_81 p1)), (.ref rs83), (.ref rs55), (.ref b28), (.ref b28)])) _
    refine st307 _ ?_
    show Steps p.tables e below (T307.setTop (mkF m 114 #[.val (.int p1), .val (.int p2), .val (.int p3), .val (.int p4), .val (.int p5), .val (.int (f0_v5 p1)), .val (.int ((p2 &&& (255 : Int32)).toUInt32.toUInt16.toUInt32.toInt32)), .val (.int ((p3 &&& (255 : Int32)).toUInt32.toUInt16.toUInt32.toInt32)), .val (.int ((p4 &&& (255 : Int32)).toUInt32.toUInt16.toUInt32.toInt32)), .val (.ref r6_0), .val (.int (f0_v51 p5)), .val (.ref r15_0), .val (.int (f0_s0_81 p1)), .unset, .unset, .unset] [(.ref rs307), (.ref r15_0), (.ref r6_0), .null, (.ref rs279), (.ref rs251), (.ref rs223), (.ref rs195), (.ref rs167), (.ref rs139), (.ref rs111), (.int (f0_s0_81 p1)), (.ref rs83), (.ref rs55), (.ref b28), (.ref b28)])) _
    refine st335.trans ?_
    show Steps p.tables e below (T335.setTop (mkF m 117 #[.val (.int p1), .val (.int p2), .val (.int p3), .val (.int p4), .val (.int p5), .val (.int (f0_v5 p1)), .val (.int ((p2 &&& (255 : Int32)).toUInt32.toUInt16.toUInt32.toInt32)), .val (.int ((p3 &&& (255 : Int32)).toUInt32.toUInt16.toUInt32.toInt32)), .val (.int ((p4 &&& (255 : Int32)).toUInt32.toUInt16.toUInt32.toInt32)), .val (.ref r6_0), .val (.int (f0_v51 p5)), .val (.ref r15_0), .val (.int (f0_s0_81 p1)), .unset, .unset, .unset] [(.ref b28)])) _
    refine XS.astore X335.here hx rfl (hb hby at_117) rfl rfl (l' := #[.val (.int p1), .val (.int p2), .val (.int p3), .val (.int p4), .val (.int p5), .val (.int (f0_v5 p1)), .val (.int ((p2 &&& (255 : Int32)).toUInt32.toUInt16.toUInt32.toInt32)), .val (.int ((p3 &&& (255 : Int32)).toUInt32.toUInt16.toUInt32.toInt32)), .val (.int ((p4 &&& (255 : Int32)).toUInt32.toUInt16.toUInt32.toInt32)), .val (.ref r6_0), .val (.int (f0_v51 p5)), .val (.ref r15_0), .val (.int (f0_s0_81 p1)), .val (.ref b28), .unset, .unset]) rfl ?_
    show Steps p.tables e below (T335.setTop (mkF m 119 #[.val (.int p1), .val (.int p2), .val (.int p3), .val (.int p4), .val (.int p5), .val (.int (f0_v5 p1)), .val (.int ((p2 &&& (255 : Int32)).toUInt32.toUInt16.toUInt32.toInt32)), .val (.int ((p3 &&& (255 : Int32)).toUInt32.toUInt16.toUInt32.toInt32)), .val (.int ((p4 &&& (255 : Int32)).toUInt32.toUInt16.toUInt32.toInt32)), .val (.ref r6_0), .val (.int (f0_v51 p5)), .val (.ref r15_0), .val (.int (f0_s0_81 p1)), .val (.ref b28), .unset, .unset] [])) _
    refine XS.iload X335.here hx rfl (hb hby at_119) rfl ?_
    exact k
  have pre6 : ∀ t, Steps p.tables e below (T335.setTop (mkF m 129 #[.val (.int p1), .val (.int p2), .val (.int p3), .val (.int p4), .val (.int p5), .val (.int (f0_v5 p1)), .val (.int ((p2 &&& (255 : Int32)).toUInt32.toUInt16.toUInt32.toInt32)), .val (.int ((p3 &&& (255 : Int32)).toUInt32.toUInt16.toUInt32.toInt32)), .val (.int ((p4 &&& (255 : Int32)).toUInt32.toUInt16.toUInt32.toInt32)), .val (.ref r6_0), .val (.int (f0_v51 p5)), .val (.ref r15_0), .val (.int (f0_s0_81 p1)), .val (.ref b28), .unset, .unset] [(.int (f0_s0_129 p1))])) t → Steps p.tables e below (s₁.setTop (entryFrame m #[(.int p1), (.int p2), (.int p3), (.int p4), (.int p5)] maxLocals)) t := by
    intro t k
    by_cases hc121 : (f0_v5 p1) = (0 : Int32)
    · have eq7 := (show (f0_s0_129 p1) = (0 : Int32) from by unfold f0_s0_129; simp only [if_pos hc121])
      try rw [eq7] at k
      refine pre5 t ?_
      show Steps p.tables e below (T335.setTop (mkF m 121 #[.val (.int p1), .val (.int p2), .val (.int p3), .val (.int p4), .val (.int p5), .val (.int (f0_v5 p1)), .val (.int ((p2 &&& (255 : Int32)).toUInt32.toUInt16.toUInt32.toInt32)), .val (.int ((p3 &&& (255 : Int32)).toUInt32.toUInt16.toUInt32.toInt32)), .val (.int ((p4 &&& (255 : Int32)).toUInt32.toUInt16.toUInt32.toInt32)), .val (.ref r6_0), .val (.int (f0_v51 p5)), .val (.ref r15_0), .val (.int (f0_s0_81 p1)), .val (.ref b28), .unset, .unset] [(.int (f0_v5 p1))])) _
      refine XS.ifYes X335.here hx rfl (pc0 := 121) (pc' := 128) rfl (hb hby at_121) rfl ((if0 _ _).trans (teq hc121).1) (by decide) (by decide) ?_
      show Steps p.tables e below (T335.setTop (mkF m 128 #[.val (.int p1), .val (.int p2), .val (.int p3), .val (.int p4), .val (.int p5), .val (.int (f0_v5 p1)), .val (.int ((p2 &&& (255 : Int32)).toUInt32.toUInt16.toUInt32.toInt32)), .val (.int ((p3 &&& (255 : Int32)).toUInt32.toUInt16.toUInt32.toInt32)), .val (.int ((p4 &&& (255 : Int32)).toUInt32.toUInt16.toUInt32.toInt32)), .val (.ref r6_0), .val (.int (f0_v51 p5)), .val (.ref r15_0), .val (.int (f0_s0_81 p1)), .val (.ref b28), .unset, .unset] [])) _
      refine XS.iconst X335.here hx rfl (hb hby at_128) ?_
      exact k
    · have eq8 := (show (f0_s0_129 p1) = (1 : Int32) from by unfold f0_s0_129; simp only [if_neg hc121])
      try rw [eq8] at k
      refine pre5 t ?_
      show Steps p.tables e below (T335.setTop (mkF m 121 #[.val (.int p1), .val (.int p2), .val (.int p3), .val (.int p4), .val (.int p5), .val (.int (f0_v5 p1)), .val (.int ((p2 &&& (255 : Int32)).toUInt32.toUInt16.toUInt32.toInt32)), .val (.int ((p3 &&& (255 : Int32)).toUInt32.toUInt16.toUInt32.toInt32)), .val (.int ((p4 &&& (255 : Int32)).toUInt32.toUInt16.toUInt32.toInt32)), .val (.ref r6_0), .val (.int (f0_v51 p5)), .val (.ref r15_0), .val (.int (f0_s0_81 p1)), .val (.ref b28), .unset, .unset] [(.int (f0_v5 p1))])) _
      refine XS.ifNo X335.here hx rfl (hb hby at_121) rfl ((if0 _ _).trans (feq hc121).1) ?_
      show Steps p.tables e below (T335.setTop (mkF m 124 #[.val (.int p1), .val (.int p2), .val (.int p3), .val (.int p4), .val (.int p5), .val (.int (f0_v5 p1)), .val (.int ((p2 &&& (255 : Int32)).toUInt32.toUInt16.toUInt32.toInt32)), .val (.int ((p3 &&& (255 : Int32)).toUInt32.toUInt16.toUInt32.toInt32)), .val (.int ((p4 &&& (255 : Int32)).toUInt32.toUInt16.toUInt32.toInt32)), .val (.ref r6_0), .val (.int (f0_v51 p5)), .val (.ref r15_0), .val (.int (f0_s0_81 p1)), .val (.ref b28), .unset, .unset] [])) _
      refine XS.iconst X335.here hx rfl (hb hby at_124) ?_
      show Steps p.tables e below (T335.setTop (mkF m 125 #[.val (.int p1), .val (.int p2), .val (.int p3), .val (.int p4), .val (.int p5), .val (.int (f0_v5 p1)), .val (.int ((p2 &&& (255 : Int32)).toUInt32.toUInt16.toUInt32.toInt32)), .val (.int ((p3 &&& (255 : Int32)).toUInt32.toUInt16.toUInt32.toInt32)), .val (.int ((p4 &&& (255 : Int32)).toUInt32.toUInt16.toUInt32.toInt32)), .val (.ref r6_0), .val (.int (f0_v51 p5)), .val (.ref r15_0), .val (.int (f0_s0_81 p1)), .val (.ref b28), .unset, .unset] [(.int (1 : Int32))])) _
      refine XS.goto X335.here hx rfl (pc0 := 125) (pc' := 129) rfl (hb hby at_125) (by decide) (by decide) ?_
      exact k
  obtain ⟨T363, X363, e363, st363⟩ := getS2 X335 hx hZ hown (host := "") (Or.inl (hw _ (List.mem_of_getElem? (i := 59) rfl))) Via.refl rfl c338 (g := (mkF m 131 #[.val (.int p1), .val (.int p2), .val (.int p3), .val (.int p4), .val (.int p5), .val (.int (f0_v5 p1)), .val (.int ((p2 &&& (255 : Int32)).toUInt32.toUInt16.toUInt32.toInt32)), .val (.int ((p3 &&& (255 : Int32)).toUInt32.toUInt16.toUInt32.toInt32)), .val (.int ((p4 &&& (255 : Int32)).toUInt32.toUInt16.toUInt32.toInt32)), .val (.ref r6_0), .val (.int (f0_v51 p5)), .val (.ref r15_0), .val (.int (f0_s0_81 p1)), .val (.ref b28), .val (.int (f0_s0_129 p1)), .unset] [])) rfl (hb hby at_131)
  obtain ⟨cq364, kq364, q364a, q364b, q364c⟩ := isOf hZ e363 c339
  obtain ⟨_, _, ⟨T364, L364, k364, n364⟩, -, X364, ⟨Lc364, hQ364, l364, y364, z364⟩, st364⟩ := X363.virtualBack hx (y := (⟨"com/example/titlepoint/titlepoint/FieldDefinition", "isAuthorizedAccessPoint", "()Z"⟩ : MethodName)) (z := (⟨"com/example/titlepoint/titlepoint/FieldDefinition", "isAuthorizedAccessPoint", "()Z"⟩ : MethodName)) hown (mvT hZ (hw _ (List.mem_of_getElem? (i := 61) rfl))) (mvT hZ (hw _ (List.mem_of_getElem? (i := 62) rfl))) (notFace_of_selects (args := #[]) (mvT hZ (hw _ (List.mem_of_getElem? (i := 64) rfl)))) (mvT hZ (hw _ (List.mem_of_getElem? (i := 64) rfl))) (mvT hZ (hw _ (List.mem_of_getElem? (i := 63) rfl))) (by decide) (backOf (W := 0) (rm5 l Z a0 hw [] w_LEG w_ent w_val z_w_val c_w_val T335.heap n0 c336 c340 c341 c342 c343) hZ (hw _ (List.mem_of_getElem? (i := 65) rfl)) (hw _ (List.mem_of_getElem? (i := 15) rfl)) (by decide) (by decide)) q364a q364c (g := (mkF m 134 #[.val (.int p1), .val (.int p2), .val (.int p3), .val (.int p4), .val (.int p5), .val (.int (f0_v5 p1)), .val (.int ((p2 &&& (255 : Int32)).toUInt32.toUInt16.toUInt32.toInt32)), .val (.int ((p3 &&& (255 : Int32)).toUInt32.toUInt16.toUInt32.toInt32)), .val (.int ((p4 &&& (255 : Int32)).toUInt32.toUInt16.toUInt32.toInt32)), .val (.ref r6_0), .val (.int (f0_v51 p5)), .val (.ref r15_0), .val (.int (f0_s0_81 p1)), .val (.ref b28), .val (.int (f0_s0_129 p1)), .unset] [(.ref w_LEG)])) rfl (by rw [hml]; rfl) (Steps.refl _) (argsL := []) (rest := []) (lenOf pd_9 rfl) rfl (by show 2 * 0 + _ ≤ _; exact Nat.le_of_eq rfl) (hb hby at_134) (fun _ _ => ⟨rfl, e363, (by decide : 27 + 0 ≤ _), (by decide : 254 + 0 ≤ _)⟩)
  dsimp only [Pt.U, Pt.locs, Pt.cells, Pt.slots] at X364 l364 y364 z364 st364 hQ364
  subst l364 y364 z364
  obtain ⟨rfl, N364q, e364⟩ := hQ364
  have N364 := Fr.app N335 N364q
  have pre9 : ∀ t, Steps p.tables e below (T364.setTop (mkF m 137 #[.val (.int p1), .val (.int p2), .val (.int p3), .val (.int p4), .val (.int p5), .val (.int (f0_v5 p1)), .val (.int ((p2 &&& (255 : Int32)).toUInt32.toUInt16.toUInt32.toInt32)), .val (.int ((p3 &&& (255 : Int32)).toUInt32.toUInt16.toUInt32.toInt32)), .val (.int ((p4 &&& (255 : Int32)).toUInt32.toUInt16.toUInt32.toInt32)), .val (.ref r6_0), .val (.int (f0_v51 p5)), .val (.ref r15_0), .val (.int (f0_s0_81 p1)), .val (.ref b28), .val (.int (f0_s0_129 p1)), .unset] [(.int (f5 z_w_val c_w_val))])) t → Steps p.tables e below (s₁.setTop (entryFrame m #[(.int p1), (.int p2), (.int p3), (.int p4), (.int p5)] maxLocals)) t := by
    intro t k
    refine pre6 t ?_
    show Steps p.tables e below (T335.setTop (mkF m 129 #[.val (.int p1), .val (.int p2), .val (.int p3), .val (.int p4), .val (.int p5), .val (.int (f0_v5 p1)), .val (.int ((p2 &&& (255 : Int32)).toUInt32.toUInt16.toUInt32.toInt32)), .val (.int ((p3 &&& (255 : Int32)).toUInt32.toUInt16.toUInt32.toInt32)), .val (.int ((p4 &&& (255 : Int32)).toUInt32.toUInt16.toUInt32.toInt32)), .val (.ref r6_0), .val (.int (f0_v51 p5)), .val (.ref r15_0), .val (.int (f0_s0_81 p1)), .val (.ref b28), .unset, .unset] [(.int (f0_s0_129 p1))])) _
    refine XS.istore X335.here hx rfl (hb hby at_129) rfl (l' := #[.val (.int p1), .val (.int p2), .val (.int p3), .val (.int p4), .val (.int p5), .val (.int (f0_v5 p1)), .val (.int ((p2 &&& (255 : Int32)).toUInt32.toUInt16.toUInt32.toInt32)), .val (.int ((p3 &&& (255 : Int32)).toUInt32.toUInt16.toUInt32.toInt32)), .val (.int ((p4 &&& (255 : Int32)).toUInt32.toUInt16.toUInt32.toInt32)), .val (.ref r6_0), .val (.int (f0_v51 p5)), .val (.ref r15_0), .val (.int (f0_s0_81 p1)), .val (.ref b28), .val (.int (f0_s0_129 p1)), .unset]) rfl ?_
    show Steps p.tables e below (T335.setTop (mkF m 131 #[.val (.int p1), .val (.int p2), .val (.int p3), .val (.int p4), .val (.int p5), .val (.int (f0_v5 p1)), .val (.int ((p2 &&& (255 : Int32)).toUInt32.toUInt16.toUInt32.toInt32)), .val (.int ((p3 &&& (255 : Int32)).toUInt32.toUInt16.toUInt32.toInt32)), .val (.int ((p4 &&& (255 : Int32)).toUInt32.toUInt16.toUInt32.toInt32)), .val (.ref r6_0), .val (.int (f0_v51 p5)), .val (.ref r15_0), .val (.int (f0_s0_81 p1)), .val (.ref b28), .val (.int (f0_s0_129 p1)), .unset] [])) _
    refine st363 _ ?_
    show Steps p.tables e below (T363.setTop (mkF m 134 #[.val (.int p1), .val (.int p2), .val (.int p3), .val (.int p4), .val (.int p5), .val (.int (f0_v5 p1)), .val (.int ((p2 &&& (255 : Int32)).toUInt32.toUInt16.toUInt32.toInt32)), .val (.int ((p3 &&& (255 : Int32)).toUInt32.toUInt16.toUInt32.toInt32)), .val (.int ((p4 &&& (255 : Int32)).toUInt32.toUInt16.toUInt32.toInt32)), .val (.ref r6_0), .val (.int (f0_v51 p5)), .val (.ref r15_0), .val (.int (f0_s0_81 p1)), .val (.ref b28), .val (.int (f0_s0_129 p1)), .unset] [(.ref w_LEG)])) _
    refine st364.trans ?_
    exact k
  have pre10 : ∀ t, Steps p.tables e below (T364.setTop (mkF m 145 #[.val (.int p1), .val (.int p2), .val (.int p3), .val (.int p4), .val (.int p5), .val (.int (f0_v5 p1)), .val (.int ((p2 &&& (255 : Int32)).toUInt32.toUInt16.toUInt32.toInt32)), .val (.int ((p3 &&& (255 : Int32)).toUInt32.toUInt16.toUInt32.toInt32)), .val (.int ((p4 &&& (255 : Int32)).toUInt32.toUInt16.toUInt32.toInt32)), .val (.ref r6_0), .val (.int (f0_v51 p5)), .val (.ref r15_0), .val (.int (f0_s0_81 p1)), .val (.ref b28), .val (.int (f0_s0_129 p1)), .unset] [(.int (f0_s0_145 z_w_val c_w_val))])) t → Steps p.tables e below (s₁.setTop (entryFrame m #[(.int p1), (.int p2), (.int p3), (.int p4), (.int p5)] maxLocals)) t := by
    intro t k
    by_cases hc137 : (f5 z_w_val c_w_val) = (0 : Int32)
    · have eq11 := (show (f0_s0_145 z_w_val c_w_val) = (1 : Int32) from by unfold f0_s0_145; simp only [if_pos hc137])
      try rw [eq11] at k
      refine pre9 t ?_
      show Steps p.tables e below (T364.setTop (mkF m 137 #[.val (.int p1), .val (.int p2), .val (.int p3), .val (.int p4), .val (.int p5), .val (.int (f0_v5 p1)), .val (.int ((p2 &&& (255 : Int32)).toUInt32.toUInt16.toUInt32.toInt32)), .val (.int ((p3 &&& (255 : Int32)).toUInt32.toUInt16.toUInt32.toInt32)), .val (.int ((p4 &&& (255 : Int32)).toUInt32.toUInt16.toUInt32.toInt32)), .val (.ref r6_0), .val (.int (f0_v51 p5)), .val (.ref r15_0), .val (.int (f0_s0_81 p1)), .val (.ref b28), .val (.int (f0_s0_129 p1)), .unset] [(.int (f5 z_w_val c_w_val))])) _
      refine XS.ifNo X364.here hx rfl (hb hby at_137) rfl ((if0 _ _).trans (teq hc137).2) ?_
      show Steps p.tables e below (T364.setTop (mkF m 140 #[.val (.int p1), .val (.int p2), .val (.int p3), .val (.int p4), .val (.int p5), .val (.int (f0_v5 p1)), .val (.int ((p2 &&& (255 : Int32)).toUInt32.toUInt16.toUInt32.toInt32)), .val (.int ((p3 &&& (255 : Int32)).toUInt32.toUInt16.toUInt32.toInt32)), .val (.int ((p4 &&& (255 : Int32)).toUInt32.toUInt16.toUInt32.toInt32)), .val (.ref r6_0), .val (.int (f0_v51 p5)), .val (.ref r15_0), .val (.int (f0_s0_81 p1)), .val (.ref b28), .val (.int (f0_s0_129 p1)), .unset] [])) _
      refine XS.iconst X364.here hx rfl (hb hby at_140) ?_
      show Steps p.tables e below (T364.setTop (mkF m 141 #[.val (.int p1), .val (.int p2), .val (.int p3), .val (.int p4), .val (.int p5), .val (.int (f0_v5 p1)), .val (.int ((p2 &&& (255 : Int32)).toUInt32.toUInt16.toUInt32.toInt32)), .val (.int ((p3 &&& (255 : Int32)).toUInt32.toUInt16.toUInt32.toInt32)), .val (.int ((p4 &&& (255 : Int32)).toUInt32.toUInt16.toUInt32.toInt32)), .val (.ref r6_0), .val (.int (f0_v51 p5)), .val (.ref r15_0), .val (.int (f0_s0_81 p1)), .val (.ref b28), .val (.int (f0_s0_129 p1)), .unset] [(.int (1 : Int32))])) _
      refine XS.goto X364.here hx rfl (pc0 := 141) (pc' := 145) rfl (hb hby at_141) (by decide) (by decide) ?_
      exact k
    · have eq12 := (show (f0_s0_145 z_w_val c_w_val) = (0 : Int32) from by unfold f0_s0_145; simp only [if_neg hc137])
      try rw [eq12] at k
      refine pre9 t ?_
      show Steps p.tables e below (T364.setTop (mkF m 137 #[.val (.int p1), .val (.int p2), .val (.int p3), .val (.int p4), .val (.int p5), .val (.int (f0_v5 p1)), .val (.int ((p2 &&& (255 : Int32)).toUInt32.toUInt16.toUInt32.toInt32)), .val (.int ((p3 &&& (255 : Int32)).toUInt32.toUInt16.toUInt32.toInt32)), .val (.int ((p4 &&& (255 : Int32)).toUInt32.toUInt16.toUInt32.toInt32)), .val (.ref r6_0), .val (.int (f0_v51 p5)), .val (.ref r15_0), .val (.int (f0_s0_81 p1)), .val (.ref b28), .val (.int (f0_s0_129 p1)), .unset] [(.int (f5 z_w_val c_w_val))])) _
      refine XS.ifYes X364.here hx rfl (pc0 := 137) (pc' := 144) rfl (hb hby at_137) rfl ((if0 _ _).trans (feq hc137).2) (by decide) (by decide) ?_
      show Steps p.tables e below (T364.setTop (mkF m 144 #[.val (.int p1), .val (.int p2), .val (.int p3), .val (.int p4), .val (.int p5), .val (.int (f0_v5 p1)), .val (.int ((p2 &&& (255 : Int32)).toUInt32.toUInt16.toUInt32.toInt32)), .val (.int ((p3 &&& (255 : Int32)).toUInt32.toUInt16.toUInt32.toInt32)), .val (.int ((p4 &&& (255 : Int32)).toUInt32.toUInt16.toUInt32.toInt32)), .val (.ref r6_0), .val (.int (f0_v51 p5)), .val (.ref r15_0), .val (.int (f0_s0_81 p1)), .val (.ref b28), .val (.int (f0_s0_129 p1)), .unset] [])) _
      refine XS.iconst X364.here hx rfl (hb hby at_144) ?_
      exact k
  obtain ⟨cq365, kq365, q365a, q365b, q365c⟩ := isOf hZ e364 c348
  obtain ⟨_, _, ⟨T365, L365, k365, n365⟩, -, X365, ⟨Lc365, hQ365, l365, y365, z365⟩, st365⟩ := X364.virtualBack hx (y := (⟨"com/example/titlepoint/titlepoint/FieldDefinition", "isAuthorizedAccessPoint", "()Z"⟩ : MethodName)) (z := (⟨"com/example/titlepoint/titlepoint/FieldDefinition", "isAuthorizedAccessPoint", "()Z"⟩ : MethodName)) hown (mvT hZ (hw _ (List.mem_of_getElem? (i := 61) rfl))) (mvT hZ (hw _ (List.mem_of_getElem? (i := 62) rfl))) (notFace_of_selects (args := #[]) (mvT hZ (hw _ (List.mem_of_getElem? (i := 64) rfl)))) (mvT hZ (hw _ (List.mem_of_getElem? (i := 64) rfl))) (mvT hZ (hw _ (List.mem_of_getElem? (i := 63) rfl))) (by decide) (backOf (W := 0) (rm5 l Z a0 hw [] b28 r6_0 r6_1 (f1w_x1n (f0_v5 p1) ((p2 &&& (255 : Int32)).toUInt32.toUInt16.toUInt32.toInt32) ((p3 &&& (255 : Int32)).toUInt32.toUInt16.toUInt32.toInt32) ((p4 &&& (255 : Int32)).toUInt32.toUInt16.toUInt32.toInt32) w_CS) (f1w_x1c (f0_v5 p1) ((p2 &&& (255 : Int32)).toUInt32.toUInt16.toUInt32.toInt32) ((p3 &&& (255 : Int32)).toUInt32.toUInt16.toUInt32.toInt32) ((p4 &&& (255 : Int32)).toUInt32.toUInt16.toUInt32.toInt32) w_CS) T335.heap n0 c336 c360 c344 c346 c345) hZ (hw _ (List.mem_of_getElem? (i := 65) rfl)) (hw _ (List.mem_of_getElem? (i := 15) rfl)) (by decide) (by decide)) q365a q365c (g := (mkF m 149 #[.val (.int p1), .val (.int p2), .val (.int p3), .val (.int p4), .val (.int p5), .val (.int (f0_v5 p1)), .val (.int ((p2 &&& (255 : Int32)).toUInt32.toUInt16.toUInt32.toInt32)), .val (.int ((p3 &&& (255 : Int32)).toUInt32.toUInt16.toUInt32.toInt32)), .val (.int ((p4 &&& (255 : Int32)).toUInt32.toUInt16.toUInt32.toInt32)), .val (.ref r6_0), .val (.int (f0_v51 p5)), .val (.ref r15_0), .val (.int (f0_s0_81 p1)), .val (.ref b28), .val (.int (f0_s0_129 p1)), .val (.int (f0_s0_145 z_w_val c_w_val))] [(.ref b28)])) rfl (by rw [hml]; rfl) (Steps.refl _) (argsL := []) (rest := []) (lenOf pd_9 rfl) rfl (by show 2 * 0 + _ ≤ _; exact Nat.le_of_eq rfl) (hb hby at_149) (fun _ _ => ⟨rfl, e364, (by decide : 27 + 0 ≤ _), (by decide : 254 + 0 ≤ _)⟩)
  dsimp only [Pt.U, Pt.locs, Pt.cells, Pt.slots] at X365 l365 y365 z365 st365 hQ365
  subst l365 y365 z365
  obtain ⟨rfl, N365q, e365⟩ := hQ365
  have N365 := Fr.app N364 N365q
  have pre13 : ∀ t, Steps p.tables e below (T365.setTop (mkF m 154 #[.val (.int p1), .val (.int p2), .val (.int p3), .val (.int p4), .val (.int p5), .val (.int (f0_v5 p1)), .val (.int ((p2 &&& (255 : Int32)).toUInt32.toUInt16.toUInt32.toInt32)), .val (.int ((p3 &&& (255 : Int32)).toUInt32.toUInt16.toUInt32.toInt32)), .val (.int ((p4 &&& (255 : Int32)).toUInt32.toUInt16.toUInt32.toInt32)), .val (.ref r6_0), .val (.int (f0_v51 p5)), .val (.ref r15_0), .val (.int (f0_s0_81 p1)), .val (.ref b28), .val (.int (f0_s0_129 p1)), .val (.int (f0_s0_145 z_w_val c_w_val))] [(.int (f0_s0_129 p1)), (.int (f5 (f1w_x1n (f0_v5 p1) ((p2 &&& (255 : Int32)).toUInt32.toUInt16.toUInt32.toInt32) ((p3 &&& (255 : Int32)).toUInt32.toUInt16.toUInt32.toInt32) ((p4 &&& (255 : Int32)).toUInt32.toUInt16.toUInt32.toInt32) w_CS) (f1w_x1c (f0_v5 p1) ((p2 &&& (255 : Int32)).toUInt32.toUInt16.toUInt32.toInt32) ((p3 &&& (255 : Int32)).toUInt32.toUInt16.toUInt32.toInt32) ((p4 &&& (255 : Int32)).toUInt32.toUInt16.toUInt32.toInt32) w_CS)))])) t → Steps p.tables e below (s₁.setTop (entryFrame m #[(.int p1), (.int p2), (.int p3), (.int p4), (.int p5)] maxLocals)) t := by
    intro t k
    refine pre10 t ?_
    show Steps p.tables e below (T364.setTop (mkF m 145 #[.val (.int p1), .val (.int p2), .val (.int p3), .val (.int p4), .val (.int p5), .val (.int (f0_v5 p1)), .val (.int ((p2 &&& (255 : Int32)).toUInt32.toUInt16.toUInt32.toInt32)), .val (.int ((p3 &&& (255 : Int32)).toUInt32.toUInt16.toUInt32.toInt32)), .val (.int ((p4 &&& (255 : Int32)).toUInt32.toUInt16.toUInt32.toInt32)), .val (.ref r6_0), .val (.int (f0_v51 p5)), .val (.ref r15_0), .val (.int (f0_s0_81 p1)), .val (.ref b28), .val (.int (f0_s0_129 p1)), .unset] [(.int (f0_s0_145 z_w_val c_w_val))])) _
    refine XS.istore X364.here hx rfl (hb hby at_145) rfl (l' := #[.val (.int p1), .val (.int p2), .val (.int p3), .val (.int p4), .val (.int p5), .val (.int (f0_v5 p1)), .val (.int ((p2 &&& (255 : Int32)).toUInt32.toUInt16.toUInt32.toInt32)), .val (.int ((p3 &&& (255 : Int32)).toUInt32.toUInt16.toUInt32.toInt32)), .val (.int ((p4 &&& (255 : Int32)).toUInt32.toUInt16.toUInt32.toInt32)), .val (.ref r6_0), .val (.int (f0_v51 p5)), .val (.ref r15_0), .val (.int (f0_s0_81 p1)), .val (.ref b28), .val (.int (f0_s0_129 p1)), .val (.int (f0_s0_145 z_w_val c_w_val))]) rfl ?_
    show Steps p.tables e below (T364.setTop (mkF m 147 #[.val (.int p1), .val (.int p2), .val (.int p3), .val (.int p4), .val (.int p5), .val (.int (f0_v5 p1)), .val (.int ((p2 &&& (255 : Int32)).toUInt32.toUInt16.toUInt32.toInt32)), .val (.int ((p3 &&& (255 : Int32)).toUInt32.toUInt16.toUInt32.toInt32)), .val (.int ((p4 &&& (255 : Int32)).toUInt32.toUInt16.toUInt32.toInt32)), .val (.ref r6_0), .val (.int (f0_v51 p5)), .val (.ref r15_0), .val (.int (f0_s0_81 p1)), .val (.ref b28), .val (.int (f0_s0_129 p1)), .val (.int (f0_s0_145 z_w_val c_w_val))] [])) _
    refine XS.aload X364.here hx rfl (hb hby at_147) rfl rfl ?_
    show Steps p.tables e below (T364.setTop (mkF m 149 #[.val (.int p1), .val (.int p2), .val (.int p3), .val (.int p4), .val (.int p5), .val (.int (f0_v5 p1)), .val (.int ((p2 &&& (255 : Int32)).toUInt32.toUInt16.toUInt32.toInt32)), .val (.int ((p3 &&& (255 : Int32)).toUInt32.toUInt16.toUInt32.toInt32)), .val (.int ((p4 &&& (255 : Int32)).toUInt32.toUInt16.toUInt32.toInt32)), .val (.ref r6_0), .val (.int (f0_v51 p5)), .val (.ref r15_0), .val (.int (f0_s0_81 p1)), .val (.ref b28), .val (.int (f0_s0_129 p1)), .val (.int (f0_s0_145 z_w_val c_w_val))] [(.ref b28)])) _
    refine st365.trans ?_
    show Steps p.tables e below (T365.setTop (mkF m 152 #[.val (.int p1), .val (.int p2), .val (.int p3), .val (.int p4), .val (.int p5), .val (.int (f0_v5 p1)), .val (.int ((p2 &&& (255 : Int32)).toUInt32.toUInt16.toUInt32.toInt32)), .val (.int ((p3 &&& (255 : Int32)).toUInt32.toUInt16.toUInt32.toInt32)), .val (.int ((p4 &&& (255 : Int32)).toUInt32.toUInt16.toUInt32.toInt32)), .val (.ref r6_0), .val (.int (f0_v51 p5)), .val (.ref r15_0), .val (.int (f0_s0_81 p1)), .val (.ref b28), .val (.int (f0_s0_129 p1)), .val (.int (f0_s0_145 z_w_val c_w_val))] [(.int (f5 (f1w_x1n (f0_v5 p1) ((p2 &&& (255 : Int32)).toUInt32.toUInt16.toUInt32.toInt32) ((p3 &&& (255 : Int32)).toUInt32.toUInt16.toUInt32.toInt32) ((p4 &&& (255 : Int32)).toUInt32.toUInt16.toUInt32.toInt32) w_CS) (f1w_x1c (f0_v5 p1) ((p2 &&& (255 : Int32)).toUInt32.toUInt16.toUInt32.toInt32) ((p3 &&& (255 : Int32)).toUInt32.toUInt16.toUInt32.toInt32) ((p4 &&& (255 : Int32)).toUInt32.toUInt16.toUInt32.toInt32) w_CS)))])) _
    refine XS.iload X365.here hx rfl (hb hby at_152) rfl ?_
    exact k
  by_cases hc154 : (f5 (f1w_x1n (f0_v5 p1) ((p2 &&& (255 : Int32)).toUInt32.toUInt16.toUInt32.toInt32) ((p3 &&& (255 : Int32)).toUInt32.toUInt16.toUInt32.toInt32) ((p4 &&& (255 : Int32)).toUInt32.toUInt16.toUInt32.toInt32) w_CS) (f1w_x1c (f0_v5 p1) ((p2 &&& (255 : Int32)).toUInt32.toUInt16.toUInt32.toInt32) ((p3 &&& (255 : Int32)).toUInt32.toUInt16.toUInt32.toInt32) ((p4 &&& (255 : Int32)).toUInt32.toUInt16.toUInt32.toInt32) w_CS)) = (f0_s0_129 p1)
  · have pre14 : ∀ t, Steps p.tables e below (T365.setTop (mkF m 159 #[.val (.int p1), .val (.int p2), .val (.int p3), .val (.int p4), .val (.int p5), .val (.int (f0_v5 p1)), .val (.int ((p2 &&& (255 : Int32)).toUInt32.toUInt16.toUInt32.toInt32)), .val (.int ((p3 &&& (255 : Int32)).toUInt32.toUInt16.toUInt32.toInt32)), .val (.int ((p4 &&& (255 : Int32)).toUInt32.toUInt16.toUInt32.toInt32)), .val (.ref r6_0), .val (.int (f0_v51 p5)), .val (.ref r15_0), .val (.int (f0_s0_81 p1)), .val (.ref b28), .val (.int (f0_s0_129 p1)), .val (.int (f0_s0_145 z_w_val c_w_val))] [(.int (f0_s0_145 z_w_val c_w_val))])) t → Steps p.tables e below (s₁.setTop (entryFrame m #[(.int p1), (.int p2), (.int p3), (.int p4), (.int p5)] maxLocals)) t := by
      intro t k
      refine pre13 t ?_
      show Steps p.tables e below (T365.setTop (mkF m 154 #[.val (.int p1), .val (.int p2), .val (.int p3), .val (.int p4), .val (.int p5), .val (.int (f0_v5 p1)), .val (.int ((p2 &&& (255 : Int32)).toUInt32.toUInt16.toUInt32.toInt32)), .val (.int ((p3 &&& (255 : Int32)).toUInt32.toUInt16.toUInt32.toInt32)), .val (.int ((p4 &&& (255 : Int32)).toUInt32.toUInt16.toUInt32.toInt32)), .val (.ref r6_0), .val (.int (f0_v51 p5)), .val (.ref r15_0), .val (.int (f0_s0_81 p1)), .val (.ref b28), .val (.int (f0_s0_129 p1)), .val (.int (f0_s0_145 z_w_val c_w_val))] [(.int (f0_s0_129 p1)), (.int (f5 (f1w_x1n (f0_v5 p1) ((p2 &&& (255 : Int32)).toUInt32.toUInt16.toUInt32.toInt32) ((p3 &&& (255 : Int32)).toUInt32.toUInt16.toUInt32.toInt32) ((p4 &&& (255 : Int32)).toUInt32.toUInt16.toUInt32.toInt32) w_CS) (f1w_x1c (f0_v5 p1) ((p2 &&& (255 : Int32)).toUInt32.toUInt16.toUInt32.toInt32) ((p3 &&& (255 : Int32)).toUInt32.toUInt16.toUInt32.toInt32) ((p4 &&& (255 : Int32)).toUInt32.toUInt16.toUInt32.toInt32) w_CS)))])) _
      refine XS.icmpNo X365.here hx rfl (hb hby at_154) rfl (teq hc154).2 ?_
      show Steps p.tables e below (T365.setTop (mkF m 157 #[.val (.int p1), .val (.int p2), .val (.int p3), .val (.int p4), .val (.int p5), .val (.int (f0_v5 p1)), .val (.int ((p2 &&& (255 : Int32)).toUInt32.toUInt16.toUInt32.toInt32)), .val (.int ((p3 &&& (255 : Int32)).toUInt32.toUInt16.toUInt32.toInt32)), .val (.int ((p4 &&& (255 : Int32)).toUInt32.toUInt16.toUInt32.toInt32)), .val (.ref r6_0), .val (.int (f0_v51 p5)), .val (.ref r15_0), .val (.int (f0_s0_81 p1)), .val (.ref b28), .val (.int (f0_s0_129 p1)), .val (.int (f0_s0_145 z_w_val c_w_val))] [])) _
      refine XS.iload X365.here hx rfl (hb hby at_157) rfl ?_
      exact k
    by_cases hc159 : (f0_s0_145 z_w_val c_w_val) = (0 : Int32)
    · have eq15 : (f0 p1 p2 p3 p4 p5 w_CS z_w_val c_w_val) = (0 : Int32) := by unfold f0; simp only [if_pos hc154, if_pos hc159]
      obtain ⟨fs, hr, hrun, hended, hEnd⟩ := X365.leaveW (s := s) S307 (by rw [e365]; exact c347) (v := some (.int (0 : Int32))) (fun h => by rw [Bd.returns] at h; cases h)
      refine ⟨_, _, pre14 _ ?_, hrun, hended, _, _, rfl, ?_, hEnd.1, hEnd.2.1, hEnd.2.2.1, hEnd.2.2.2.mono (by decide) (by decide)⟩
      · show Steps p.tables e below (T365.setTop (mkF m 159 #[.val (.int p1), .val (.int p2), .val (.int p3), .val (.int p4), .val (.int p5), .val (.int (f0_v5 p1)), .val (.int ((p2 &&& (255 : Int32)).toUInt32.toUInt16.toUInt32.toInt32)), .val (.int ((p3 &&& (255 : Int32)).toUInt32.toUInt16.toUInt32.toInt32)), .val (.int ((p4 &&& (255 : Int32)).toUInt32.toUInt16.toUInt32.toInt32)), .val (.ref r6_0), .val (.int (f0_v51 p5)), .val (.ref r15_0), .val (.int (f0_s0_81 p1)), .val (.ref b28), .val (.int (f0_s0_129 p1)), .val (.int (f0_s0_145 z_w_val c_w_val))] [(.int (f0_s0_145 z_w_val c_w_val))])) _
        refine XS.ifYes X365.here hx rfl (pc0 := 159) (pc' := 166) rfl (hb hby at_159) rfl ((if0 _ _).trans (teq hc159).1) (by decide) (by decide) ?_
        show Steps p.tables e below (T365.setTop (mkF m 166 #[.val (.int p1), .val (.int p2), .val (.int p3), .val (.int p4), .val (.int p5), .val (.int (f0_v5 p1)), .val (.int ((p2 &&& (255 : Int32)).toUInt32.toUInt16.toUInt32.toInt32)), .val (.int ((p3 &&& (255 : Int32)).toUInt32.toUInt16.toUInt32.toInt32)), .val (.int ((p4 &&& (255 : Int32)).toUInt32.toUInt16.toUInt32.toInt32)), .val (.ref r6_0), .val (.int (f0_v51 p5)), .val (.ref r15_0), .val (.int (f0_s0_81 p1)), .val (.ref b28), .val (.int (f0_s0_129 p1)), .val (.int (f0_s0_145 z_w_val c_w_val))] [])) _
        refine XS.iconst X365.here hx rfl (hb hby at_166) ?_
        show Steps p.tables e below (T365.setTop (mkF m 167 #[.val (.int p1), .val (.int p2), .val (.int p3), .val (.int p4), .val (.int p5), .val (.int (f0_v5 p1)), .val (.int ((p2 &&& (255 : Int32)).toUInt32.toUInt16.toUInt32.toInt32)), .val (.int ((p3 &&& (255 : Int32)).toUInt32.toUInt16.toUInt32.toInt32)), .val (.int ((p4 &&& (255 : Int32)).toUInt32.toUInt16.toUInt32.toInt32)), .val (.ref r6_0), .val (.int (f0_v51 p5)), .val (.ref r15_0), .val (.int (f0_s0_81 p1)), .val (.ref b28), .val (.int (f0_s0_129 p1)), .val (.int (f0_s0_145 z_w_val c_w_val))] [(.int (0 : Int32))])) _
        exact retN X365 hx (t := .boolean) Bd.returns (by simp) (hb hby at_167) hr
      · show Q0 Z p1 p2 p3 p4 p5 w_CS w_LEG w_ent w_val z_w_val c_w_val h0 n0 _ T365.heap _
        rw [e365]
        exact ⟨by rw [eq15], N365, trivial⟩
    · have eq16 : (f0 p1 p2 p3 p4 p5 w_CS z_w_val c_w_val) = (1 : Int32) := by unfold f0; simp only [if_pos hc154, if_neg hc159]
      obtain ⟨fs, hr, hrun, hended, hEnd⟩ := X365.leaveW (s := s) S307 (by rw [e365]; exact c347) (v := some (.int (1 : Int32))) (fun h => by rw [Bd.returns] at h; cases h)
      refine ⟨_, _, pre14 _ ?_, hrun, hended, _, _, rfl, ?_, hEnd.1, hEnd.2.1, hEnd.2.2.1, hEnd.2.2.2.mono (by decide) (by decide)⟩
      · show Steps p.tables e below (T365.setTop (mkF m 159 #[.val (.int p1), .val (.int p2), .val (.int p3), .val (.int p4), .val (.int p5), .val (.int (f0_v5 p1)), .val (.int ((p2 &&& (255 : Int32)).toUInt32.toUInt16.toUInt32.toInt32)), .val (.int ((p3 &&& (255 : Int32)).toUInt32.toUInt16.toUInt32.toInt32)), .val (.int ((p4 &&& (255 : Int32)).toUInt32.toUInt16.toUInt32.toInt32)), .val (.ref r6_0), .val (.int (f0_v51 p5)), .val (.ref r15_0), .val (.int (f0_s0_81 p1)), .val (.ref b28), .val (.int (f0_s0_129 p1)), .val (.int (f0_s0_145 z_w_val c_w_val))] [(.int (f0_s0_145 z_w_val c_w_val))])) _
        refine XS.ifNo X365.here hx rfl (hb hby at_159) rfl ((if0 _ _).trans (feq hc159).1) ?_
        show Steps p.tables e below (T365.setTop (mkF m 162 #[.val (.int p1), .val (.int p2), .val (.int p3), .val (.int p4), .val (.int p5), .val (.int (f0_v5 p1)), .val (.int ((p2 &&& (255 : Int32)).toUInt32.toUInt16.toUInt32.toInt32)), .val (.int ((p3 &&& (255 : Int32)).toUInt32.toUInt16.toUInt32.toInt32)), .val (.int ((p4 &&& (255 : Int32)).toUInt32.toUInt16.toUInt32.toInt32)), .val (.ref r6_0), .val (.int (f0_v51 p5)), .val (.ref r15_0), .val (.int (f0_s0_81 p1)), .val (.ref b28), .val (.int (f0_s0_129 p1)), .val (.int (f0_s0_145 z_w_val c_w_val))] [])) _
        refine XS.iconst X365.here hx rfl (hb hby at_162) ?_
        show Steps p.tables e below (T365.setTop (mkF m 163 #[.val (.int p1), .val (.int p2), .val (.int p3), .val (.int p4), .val (.int p5), .val (.int (f0_v5 p1)), .val (.int ((p2 &&& (255 : Int32)).toUInt32.toUInt16.toUInt32.toInt32)), .val (.int ((p3 &&& (255 : Int32)).toUInt32.toUInt16.toUInt32.toInt32)), .val (.int ((p4 &&& (255 : Int32)).toUInt32.toUInt16.toUInt32.toInt32)), .val (.ref r6_0), .val (.int (f0_v51 p5)), .val (.ref r15_0), .val (.int (f0_s0_81 p1)), .val (.ref b28), .val (.int (f0_s0_129 p1)), .val (.int (f0_s0_145 z_w_val c_w_val))] [(.int (1 : Int32))])) _
        refine XS.goto X365.here hx rfl (pc0 := 163) (pc' := 167) rfl (hb hby at_163) (by decide) (by decide) ?_
        show Steps p.tables e below (T365.setTop (mkF m 167 #[.val (.int p1), .val (.int p2), .val (.int p3), .val (.int p4), .val (.int p5), .val (.int (f0_v5 p1)), .val (.int ((p2 &&& (255 : Int32)).toUInt32.toUInt16.toUInt32.toInt32)), .val (.int ((p3 &&& (255 : Int32)).toUInt32.toUInt16.toUInt32.toInt32)), .val (.int ((p4 &&& (255 : Int32)).toUInt32.toUInt16.toUInt32.toInt32)), .val (.ref r6_0), .val (.int (f0_v51 p5)), .val (.ref r15_0), .val (.int (f0_s0_81 p1)), .val (.ref b28), .val (.int (f0_s0_129 p1)), .val (.int (f0_s0_145 z_w_val c_w_val))] [(.int (1 : Int32))])) _
        exact retN X365 hx (t := .boolean) Bd.returns (by simp) (hb hby at_167) hr
      · show Q0 Z p1 p2 p3 p4 p5 w_CS w_LEG w_ent w_val z_w_val c_w_val h0 n0 _ T365.heap _
        rw [e365]
        exact ⟨by rw [eq16], N365, trivial⟩
  · have eq17 : (f0 p1 p2 p3 p4 p5 w_CS z_w_val c_w_val) = (0 : Int32) := by unfold f0; simp only [if_neg hc154]
    obtain ⟨fs, hr, hrun, hended, hEnd⟩ := X365.leaveW (s := s) S307 (by rw [e365]; exact c347) (v := some (.int (0 : Int32))) (fun h => by rw [Bd.returns] at h; cases h)
    refine ⟨_, _, pre13 _ ?_, hrun, hended, _, _, rfl, ?_, hEnd.1, hEnd.2.1, hEnd.2.2.1, hEnd.2.2.2.mono (by decide) (by decide)⟩
    · show Steps p.tables e below (T365.setTop (mkF m 154 #[.val (.int p1), .val (.int p2), .val (.int p3), .val (.int p4), .val (.int p5), .val (.int (f0_v5 p1)), .val (.int ((p2 &&& (255 : Int32)).toUInt32.toUInt16.toUInt32.toInt32)), .val (.int ((p3 &&& (255 : Int32)).toUInt32.toUInt16.toUInt32.toInt32)), .val (.int ((p4 &&& (255 : Int32)).toUInt32.toUInt16.toUInt32.toInt32)), .val (.ref r6_0), .val (.int (f0_v51 p5)), .val (.ref r15_0), .val (.int (f0_s0_81 p1)), .val (.ref b28), .val (.int (f0_s0_129 p1)), .val (.int (f0_s0_145 z_w_val c_w_val))] [(.int (f0_s0_129 p1)), (.int (f5 (f1w_x1n (f0_v5 p1) ((p2 &&& (255 : Int32)).toUInt32.toUInt16.toUInt32.toInt32) ((p3 &&& (255 : Int32)).toUInt32.toUInt16.toUInt32.toInt32) ((p4 &&& (255 : Int32)).toUInt32.toUInt16.toUInt32.toInt32) w_CS) (f1w_x1c (f0_v5 p1) ((p2 &&& (255 : Int32)).toUInt32.toUInt16.toUInt32.toInt32) ((p3 &&& (255 : Int32)).toUInt32.toUInt16.toUInt32.toInt32) ((p4 &&& (255 : Int32)).toUInt32.toUInt16.toUInt32.toInt32) w_CS)))])) _
      refine XS.icmpYes X365.here hx rfl (pc0 := 154) (pc' := 166) rfl (hb hby at_154) rfl (feq hc154).2 (by decide) (by decide) ?_
      show Steps p.tables e below (T365.setTop (mkF m 166 #[.val (.int p1), .val (.int p2), .val (.int p3), .val (.int p4), .val (.int p5), .val (.int (f0_v5 p1)), .val (.int ((p2 &&& (255 : Int32)).toUInt32.toUInt16.toUInt32.toInt32)), .val (.int ((p3 &&& (255 : Int32)).toUInt32.toUInt16.toUInt32.toInt32)), .val (.int ((p4 &&& (255 : Int32)).toUInt32.toUInt16.toUInt32.toInt32)), .val (.ref r6_0), .val (.int (f0_v51 p5)), .val (.ref r15_0), .val (.int (f0_s0_81 p1)), .val (.ref b28), .val (.int (f0_s0_129 p1)), .val (.int (f0_s0_145 z_w_val c_w_val))] [])) _
      refine XS.iconst X365.here hx rfl (hb hby at_166) ?_
      show Steps p.tables e below (T365.setTop (mkF m 167 #[.val (.int p1), .val (.int p2), .val (.int p3), .val (.int p4), .val (.int p5), .val (.int (f0_v5 p1)), .val (.int ((p2 &&& (255 : Int32)).toUInt32.toUInt16.toUInt32.toInt32)), .val (.int ((p3 &&& (255 : Int32)).toUInt32.toUInt16.toUInt32.toInt32)), .val (.int ((p4 &&& (255 : Int32)).toUInt32.toUInt16.toUInt32.toInt32)), .val (.ref r6_0), .val (.int (f0_v51 p5)), .val (.ref r15_0), .val (.int (f0_s0_81 p1)), .val (.ref b28), .val (.int (f0_s0_129 p1)), .val (.int (f0_s0_145 z_w_val c_w_val))] [(.int (0 : Int32))])) _
      exact retN X365 hx (t := .boolean) Bd.returns (by simp) (hb hby at_167) hr
    · show Q0 Z p1 p2 p3 p4 p5 w_CS w_LEG w_ent w_val z_w_val c_w_val h0 n0 _ T365.heap _
      rw [e365]
      exact ⟨by rw [eq17], N365, trivial⟩
theorem own_x1n (a b d e w : Int32) : ¬ f1_x1n a b d e w = 0 := by
  unfold f1_x1n f12_x1n f14_x0n f7_x0n f8_x0n f9_x0n
  split
  · decide
  · split <;> decide
theorem own_law (p1 p2 p3 p4 p5 w : Int32) (c : Nat → Int32) : f0 p1 p2 p3 p4 p5 w 0 c = 1 := by
  have h2 : f0_s0_145 0 c = 1 := by unfold f0_s0_145 f5 f6; decide
  have h1 : ∀ (b d e : Int32) (g : Nat → Int32), f5 (f1w_x1n (f0_v5 p1) b d e w) g = f0_s0_129 p1 := by
    intro b d e g
    unfold f5 f6 f1w_x1n f0_s0_129
    by_cases h : f0_v5 p1 = 0
    · rw [if_pos h, if_pos h]
      unfold f1z_x1n
      decide
    · rw [if_neg h, if_neg h, if_neg (own_x1n _ _ _ _ _)]
      decide
  unfold f0
  rw [if_pos (h1 _ _ _ _), h2]
  decide

set_option maxRecDepth 65536 in
set_option maxHeartbeats 40000000 in
theorem comes_1 {Post : Tables → Env → Array Value → State → Outcome → State → Prop} (hpost : ∀ tb e args s v u, (limb_1_1.after args s (.returned v) u = true ∧ limb_1_2.after args s (.returned v) u = true ∧ True) → ReturnedEndW s (.returned v) u (Jvm.fieldLocs frame_1_writes args s ++ Jvm.arrayLocs frame_1_arrays args s ++ Jvm.staticLocs frame_1_statics s) 32 5312 → Post tb e args s (.returned v) u) :
    ArmFor flags0 classFile x code maxLocals ret World_1 tables_1 room_1 Calls_1 rest_1 Pre_1 Post := by
  intro l hfl _ _ p e ha hc hk s m args below hf hA hF happ hP
  obtain ⟨hcalls, hrest, hpre⟩ := hP
  obtain ⟨-, -, -, hnamed, -, -, -, hat⟩ := (Spec.applies_iff hf).mp happ
  obtain ⟨hg, hn⟩ := and_e (Cond.before_iff.mp (show (Jvm.Cond.and given_1 narrow_1).before args s = true from hpre))
  obtain ⟨g1, g2⟩ := and_e hg
  obtain ⟨g3, g4⟩ := and_e g2
  obtain ⟨g5, g6⟩ := and_e g4
  obtain ⟨g7, g8⟩ := and_e g6
  obtain ⟨g9, g10⟩ := and_e g8
  obtain ⟨w0, w1, w2, w3, w4, rfl⟩ : ∃ w0 w1 w2 w3 w4 : Value, args = #[w0, w1, w2, w3, w4] := by
    have hs : args.size = 5 := by simpa [Cond.value, given_1] using g1
    obtain ⟨L⟩ := args
    match L, hs with
    | [w0, w1, w2, w3, w4], _ => exact ⟨w0, w1, w2, w3, w4, rfl⟩
  have hw := fun d (hd : d ∈ tables_1) => atoms_spec (ws := Jvm.Cond.code x code maxLocals ret :: tables_1) hat d (List.mem_cons_of_mem _ hd)
  have hfit : Fit s := fun {y c} hc i hi => by
    obtain ⟨ha, rfl⟩ := Array.getElem?_eq_some_iff.mp hc
    have q := List.all_eq_true.mp ((Array.all_eq_true_iff_forall_mem.mp hF) _ (Array.getElem_mem ha)) i (List.mem_range.mpr hi)
    simpa [Array.getElem?_eq_getElem hi] using q
  obtain ⟨i0, ei0⟩ := is_v g3
  obtain rfl : w0 = (.int i0) := Option.some.inj ei0
  obtain ⟨i1, ei1⟩ := is_v g5
  obtain rfl : w1 = (.int i1) := Option.some.inj ei1
  obtain ⟨i2, ei2⟩ := is_v g7
  obtain rfl : w2 = (.int i2) := Option.some.inj ei2
  obtain ⟨i3, ei3⟩ := is_v g9
  obtain rfl : w3 = (.int i3) := Option.some.inj ei3
  obtain ⟨i4, ei4⟩ := is_v g10
  obtain rfl : w4 = (.int i4) := Option.some.inj ei4
  obtain ⟨n1, n2⟩ := and_e hn
  obtain ⟨n3, n4⟩ := and_e n2
  obtain ⟨n5, n6⟩ := and_e n4
  obtain ⟨hsets, hown0⟩ := atoms_of _ (rest_1_c_eq ▸ (show rest_1_c.before _ s = true from hrest))
  obtain ⟨w_CS, e_CS⟩ := is_v (Cond.before_iff.mp (hsets _ (List.mem_of_getElem? (i := 1) rfl)))
  have S_CS : Sta s s.heap "java/lang/String" "COMPACT_STRINGS" "Z" (.int w_CS) := Sta.start e_CS (Or.inl (hsets _ (List.mem_of_getElem? (i := 0) rfl)))
  have hcs : ¬ w_CS = 0 := gotF (Cond.eq_ints e_CS rfl) (not_v (Cond.before_iff.mp (hsets _ (List.mem_of_getElem? (i := 2) rfl))))
  have hcw : Jvm.Lit.compactW.before _ s = true := (hsets _ (List.mem_of_getElem? (i := 2) rfl))
  have hheld : Jvm.Lit.constHeld s "com/example/titlepoint/titlepoint/FieldDefinitionIsAuthorizedAccessPointPinLaw" 7 := hcalls.1 ("com/example/titlepoint/titlepoint/FieldDefinitionIsAuthorizedAccessPointPinLaw", 7) (List.mem_of_getElem? (i := 0) rfl)
  obtain ⟨w_LEG, e_LEG⟩ := exa_v n1
  have S_LEG : Sta s s.heap "com/example/titlepoint/titlepoint/FieldDefinition" "LEGACY_TITLE" "Lcom/example/titlepoint/titlepoint/FieldDefinition;" (.ref w_LEG) := Sta.start e_LEG (Or.inr ⟨(hw _ (List.mem_of_getElem? (i := 15) rfl)), (hw _ (List.mem_of_getElem? (i := 60) rfl))⟩)
  have E_LEG : Exa s s.heap w_LEG "com/example/titlepoint/titlepoint/FieldDefinition" := Exa.start e_LEG n1
  obtain ⟨w_ent, e_ent⟩ := exa_v n3
  have F_ent : Fld s s.heap w_LEG "com/example/titlepoint/titlepoint/FieldDefinition" "entity" "Ljava/lang/String;" (.ref w_ent) := Fld.start ((fld_at e_LEG).symm.trans e_ent)
  have E_ent : Exa s s.heap w_ent "java/lang/String" := Exa.start e_ent n3
  obtain ⟨w_val, e_val⟩ := arr_v n5
  have F_val : Fld s s.heap w_ent "java/lang/String" "value" "[B" (.ref w_val) := Fld.start ((fld_at e_ent).symm.trans e_val)
  obtain ⟨cl, Ac⟩ := Arr.start e_val n5
  have hat_v := Arr.fin (Vm.Alike.refl _) Ac
  obtain ⟨hl, hsz⟩ := own_len e_val hat_v n6
  have V_val := own_ofTab (Tab.start hfit Ac (Or.inr (Or.inr (Or.inl rfl))) hl hsz (by decide)) hl
  obtain ⟨n, o, h1, h2, h3, v', L, rfl, ⟨hv', N, -⟩, hq⟩ := rm0 l s _ hw tables_1 i0 i1 i2 i3 i4 w_CS w_LEG w_ent w_val 0 (fun i => atv cl i.toInt32) s.heap s.heap.size (Nat.le_refl _) S_CS hcs rfl hheld hcw S_LEG E_LEG F_ent E_ent F_val V_val p e ha hc hk s m _ below hf ((Spec.applies_iff_loose hf).mp happ).1 ⟨rfl, State.Warmed39.refl s, rfl, rfl⟩ trivial
  rw [own_law i0 i1 i2 i3 i4 w_CS (fun i => atv cl i.toInt32)] at hv'
  subst hv'
  refine ⟨n, _, h1, h2, h3, hpost _ _ _ _ _ _ ⟨Cond.after_iff.mpr rfl, Cond.after_iff.mpr (eq_i res_at (Term.int_eval (1)) rfl), trivial⟩ ⟨hq.1, hq.2.1, hq.2.2.1, (hq.2.2.2.sift fun y hy => Or.inr (N y hy)).mono (by decide) (by decide)⟩⟩
theorem main_1_1 : Claimed_1_1 := comes_1 fun _ _ _ _ _ _ h hF => ⟨h.1, hF⟩
theorem main_1_2 : Claimed_1_2 := comes_1 fun _ _ _ _ _ _ h hF => ⟨h.2.1, hF⟩
end Jvm.Pilot.@@N@@
namespace Jvm.Pilot.@@N@@
open Jvm Jvm.ClassFile Sem Op Lib Jvm.Free Jvm.Stand Jvm.Pilot.@@N@@.Jvm.D
/-! MADE BY PROGRAM (witnessworld.py) out of the Statement's table words and the real class files: 21 classes; the members and pool entries that the words name. The judged class is class 1, her method 2. -/
namespace start1
open Jvm.ClassFile
def u (s : String) : CpInfo := .utf8 (stringToUtf16 s)
/-- a pool by its gaps: so many unusable entries, then the entry; so many at the end -/
def gap : Nat → List CpInfo → List CpInfo
  | 0, r => r
  | n + 1, r => .unusable :: gap n r
def poolList (es : List (Nat × CpInfo)) (last : Nat) : List CpInfo := es.foldr (fun e r => gap e.1 (e.2 :: r)) (gap last [])
def pool (es : List (Nat × CpInfo)) (last : Nat) : Array CpInfo := ⟨poolList es last⟩
def fileOf (pool : Array CpInfo) (this : Nat) (attrs : Array Attribute := #[]) (ms : Array MethodInfo := #[]) (fl : Nat := 33) (sup : Nat := 0) (ifs : Array Nat := #[]) (fds : Array FieldInfo := #[]) : ClassFile where
  minorVersion := 0
  majorVersion := 65
  constantPool := pool
  accessFlags := fl
  thisClass := this
  superClass := sup
  interfaces := ifs
  fields := fds
  methods := ms
  attributes := attrs
def plain (name : String) (sup : Option ClassId) : Class where
  name := name
  kind := .ordinary
  loader := none
  accessFlags := 33
  super := sup
  interfaces := #[]
  cf := none
  fields := #[]
  methods := #[]
  instanceTypes := #[]
  staticTypes := #[]
  resolved := #[]
  callSites := []
  init := .initialized
  statics := none
  mirror := none

def pool0 : Array CpInfo := pool [(5, u "<init>"), (0, u "()V"), (1, .class_ 10), (1, u "java/lang/Object")] 113

def k0c0 : Code := { maxStack := 0, maxLocals := 1, code := object_method_1_code, exceptionTable := #[], attributes := #[] }
def k0m0 : Method := { name := "<init>", desc := "()V", sig := { parameters := [], returnType := none }, accessFlags := 1, code := some k0c0 }
/-- java/lang/Object -/
def k0 : Class := { plain "java/lang/Object" none with
  accessFlags := 33
  interfaces := #[]
  cf := some (fileOf pool0 8 #[] #[{ accessFlags := 1, nameIndex := 5, descriptorIndex := 6, attributes := #[] }] 33 0 #[] #[])
  fields := #[]
  methods := #[k0m0]
  instanceTypes := #[]
  staticTypes := #[]
  resolved := Array.replicate 124 none
  statics := none }

def pool1 : Array CpInfo := pool [(2, .class_ 4), (1, u "java/lang/Object"), (0, u "<init>"), (0, u "()V"), (0, .string 8), (0, u ""), (0, .methodref 10 11), (0, .class_ 12), (0, .nameAndType 13 14), (0, u "java/lang/String"), (0, u "valueOf"), (0, u "(C)Ljava/lang/String;"), (0, .methodref 10 16), (0, .nameAndType 5 17), (0, u "([C)V"), (0, .integer 2147483647), (0, .methodref 20 21), (0, .class_ 22), (0, .nameAndType 23 24), (0, u "com/example/titlepoint/titlepoint/FieldDefinitionIsAuthorizedAccessPointPinLaw"), (0, u "drawn"), (0, u "(ICCC)Ljava/lang/String;"), (0, .class_ 26), (0, u "com/example/titlepoint/titlepoint/FieldDefinition"), (0, .string 28), (0, u "231"), (0, .string 30), (0, u "x"), (0, .string 32), (0, u " "), (0, .string 34), (0, u "a"), (0, .methodref 25 36), (0, .nameAndType 5 37), (0, u "(Ljava/lang/String;Ljava/lang/String;ZLjava/lang/String;Ljava/lang/String;Ljava/lang/String;Ljava/lang/String;Ljava/lang/String;Ljava/lang/String;Ljava/lang/String;Ljava/util/Map;Ljava/lang/String;Ljava/lang/String;Ljava/lang/String;)V"), (0, .fieldref 25 39), (0, .nameAndType 40 41), (0, u "LEGACY_TITLE"), (0, u "Lcom/example/titlepoint/titlepoint/FieldDefinition;"), (0, .methodref 25 43), (0, .nameAndType 44 45), (0, u "isAuthorizedAccessPoint"), (0, u "()Z"), (3, u "law"), (0, u "(IIIII)Z")] 2

def k1m0 : Method := { name := "<init>", desc := "()V", sig := { parameters := [], returnType := none }, accessFlags := 1, code := none }
def k1c1 : Code := { maxStack := 6, maxLocals := 4, code := method_2_code, exceptionTable := #[], attributes := #[] }
def k1m1 : Method := { name := "drawn", desc := "(ICCC)Ljava/lang/String;", sig := { parameters := [.int, .char, .char, .char], returnType := some (.object "java/lang/String") }, accessFlags := 10, code := some k1c1 }
def k1c2 : Code := { maxStack := 16, maxLocals := 16, code := code, exceptionTable := #[], attributes := #[] }
def k1m2 : Method := { name := "law", desc := "(IIIII)Z", sig := { parameters := [.int, .int, .int, .int, .int], returnType := some .boolean }, accessFlags := 9, code := some k1c2 }
/-- com/example/titlepoint/titlepoint/FieldDefinitionIsAuthorizedAccessPointPinLaw -/
def k1 : Class := { plain "com/example/titlepoint/titlepoint/FieldDefinitionIsAuthorizedAccessPointPinLaw" (some 0) with
  accessFlags := 49
  interfaces := #[]
  cf := some (fileOf pool1 20 #[] #[{ accessFlags := 1, nameIndex := 5, descriptorIndex := 6, attributes := #[] }, { accessFlags := 10, nameIndex := 23, descriptorIndex := 24, attributes := #[] }, { accessFlags := 9, nameIndex := 49, descriptorIndex := 50, attributes := #[] }] 49 2 #[] #[])
  fields := #[]
  methods := #[k1m0, k1m1, k1m2]
  instanceTypes := #[]
  staticTypes := #[]
  resolved := Array.replicate 53 none
  statics := none }

def pool2 : Array CpInfo := pool [(1, .class_ 2), (0, u "java/io/Serializable"), (0, .class_ 4), (0, u "java/lang/Object")] 2

/-- java/io/Serializable -/
def k2 : Class := { plain "java/io/Serializable" (some 0) with
  accessFlags := 1537
  interfaces := #[]
  cf := some (fileOf pool2 1 #[] #[] 1537 3 #[] #[])
  fields := #[]
  methods := #[]
  instanceTypes := #[]
  staticTypes := #[]
  resolved := Array.replicate 7 none
  statics := none }

def pool3 : Array CpInfo := pool [(1, .class_ 2), (0, u "java/lang/Comparable"), (0, .class_ 4), (0, u "java/lang/Object")] 7

/-- java/lang/Comparable -/
def k3 : Class := { plain "java/lang/Comparable" (some 0) with
  accessFlags := 1537
  interfaces := #[]
  cf := some (fileOf pool3 1 #[] #[] 1537 3 #[] #[])
  fields := #[]
  methods := #[]
  instanceTypes := #[]
  staticTypes := #[]
  resolved := Array.replicate 12 none
  statics := none }

def pool4 : Array CpInfo := pool [(2, .class_ 4), (1, u "java/lang/CharSequence"), (42, .class_ 48), (0, u "java/lang/CharSequence$1CodePointIterator"), (10, .class_ 60), (0, u "java/lang/CharSequence$1CharIterator"), (5, .class_ 67), (0, u "java/lang/Object")] 63

/-- java/lang/CharSequence -/
def k4 : Class := { plain "java/lang/CharSequence" (some 0) with
  accessFlags := 1537
  interfaces := #[]
  cf := some (fileOf pool4 2 #[.nestMembers #[47, 59]] #[] 1537 66 #[] #[])
  fields := #[]
  methods := #[]
  instanceTypes := #[]
  staticTypes := #[]
  resolved := Array.replicate 131 none
  statics := none }

def pool5 : Array CpInfo := pool [(1, .class_ 2), (0, u "java/lang/constant/Constable"), (0, .class_ 4), (0, u "java/lang/Object")] 6

/-- java/lang/constant/Constable -/
def k5 : Class := { plain "java/lang/constant/Constable" (some 0) with
  accessFlags := 1537
  interfaces := #[]
  cf := some (fileOf pool5 1 #[] #[] 1537 3 #[] #[])
  fields := #[]
  methods := #[]
  instanceTypes := #[]
  staticTypes := #[]
  resolved := Array.replicate 11 none
  statics := none }

def pool6 : Array CpInfo := pool [(1, .class_ 2), (0, u "java/lang/constant/ConstantDesc"), (0, .class_ 4), (0, u "java/lang/Object")] 32

/-- java/lang/constant/ConstantDesc -/
def k6 : Class := { plain "java/lang/constant/ConstantDesc" (some 0) with
  accessFlags := 1537
  interfaces := #[]
  cf := some (fileOf pool6 1 #[] #[] 1537 3 #[] #[])
  fields := #[]
  methods := #[]
  instanceTypes := #[]
  staticTypes := #[]
  resolved := Array.replicate 37 none
  statics := none }

def pool7 : Array CpInfo := pool [(1, .methodref 2 3), (0, .class_ 4), (0, .nameAndType 5 6), (0, u "java/lang/Object"), (0, u "<init>"), (0, u "()V"), (2, .fieldref 10 11), (0, .class_ 12), (0, .nameAndType 13 14), (0, u "java/lang/String"), (0, u "value"), (0, u "[B"), (0, .fieldref 10 16), (0, .nameAndType 17 18), (0, u "coder"), (0, u "B"), (2, u "hash"), (0, u "I"), (2, u "hashIsZero"), (0, u "Z"), (0, .methodref 10 28), (0, .nameAndType 5 29), (0, u "([CIILjava/lang/Void;)V"), (8, .fieldref 10 39), (0, .nameAndType 40 26), (0, u "COMPACT_STRINGS"), (1, .class_ 44), (1, u "java/lang/StringUTF16"), (0, u "compress"), (1, .methodref 42 48), (0, .nameAndType 49 50), (0, u "coderFromArrayLen"), (0, u "([BI)B"), (2, u "toBytes"), (53, .class_ 109), (1, u "java/lang/StringLatin1"), (32, u "()Z"), (34, .methodref 42 178), (0, .nameAndType 45 179), (0, u "([CII)[B"), (29, .methodref 10 210), (0, .nameAndType 5 211), (0, u "([BB)V"), (157, u "(C)Z"), (205, .class_ 576), (0, u "java/lang/CharSequence"), (22, u "CASE_INSENSITIVE_ORDER"), (0, u "Ljava/util/Comparator;"), (91, u "isEmpty"), (89, u "valueOf"), (0, u "(C)Ljava/lang/String;"), (226, u "([C)V"), (4, .methodref 107 1016), (0, .nameAndType 1017 369), (0, u "canEncode"), (0, .methodref 107 1019), (0, .nameAndType 53 1020), (0, u "(C)[B"), (80, u "serialPersistentFields"), (0, u "[Ljava/io/ObjectStreamField;"), (0, .class_ 1104), (0, u "java/lang/String$CaseInsensitiveComparator"), (1, .class_ 1107), (0, u "java/io/Serializable"), (0, .class_ 1109), (0, u "java/lang/Comparable"), (0, .class_ 1111), (0, u "java/lang/constant/Constable"), (0, .class_ 1113), (0, u "java/lang/constant/ConstantDesc"), (2, u "serialVersionUID"), (0, u "J"), (3, u "REPL"), (0, u "C"), (2, u "LATIN1"), (1, u "UTF16")] 323

def k7m0 : Method := { name := "<init>", desc := "()V", sig := { parameters := [], returnType := none }, accessFlags := 1, code := none }
def k7c1 : Code := { maxStack := 5, maxLocals := 2, code := jdk_42_method_3_code, exceptionTable := #[], attributes := #[] }
def k7m1 : Method := { name := "<init>", desc := "([C)V", sig := { parameters := [(.array .char)], returnType := none }, accessFlags := 1, code := some k7c1 }
def k7c2 : Code := { maxStack := 1, maxLocals := 1, code := jdk_42_method_55_code, exceptionTable := #[], attributes := #[] }
def k7m2 : Method := { name := "isEmpty", desc := "()Z", sig := { parameters := [], returnType := some .boolean }, accessFlags := 1, code := some k7c2 }
def k7c3 : Code := { maxStack := 4, maxLocals := 1, code := jdk_42_method_139_code, exceptionTable := #[], attributes := #[] }
def k7m3 : Method := { name := "valueOf", desc := "(C)Ljava/lang/String;", sig := { parameters := [.char], returnType := some (.object "java/lang/String") }, accessFlags := 9, code := some k7c3 }
def k7c4 : Code := { maxStack := 4, maxLocals := 6, code := jdk_42_method_149_code, exceptionTable := #[], attributes := #[] }
def k7m4 : Method := { name := "<init>", desc := "([CIILjava/lang/Void;)V", sig := { parameters := [(.array .char), .int, .int, (.object "java/lang/Void")], returnType := none }, accessFlags := 2, code := some k7c4 }
def k7c5 : Code := { maxStack := 2, maxLocals := 3, code := jdk_42_method_151_code, exceptionTable := #[], attributes := #[] }
def k7m5 : Method := { name := "<init>", desc := "([BB)V", sig := { parameters := [(.array .byte), .byte], returnType := none }, accessFlags := 0, code := some k7c5 }
/-- java/lang/String -/
def k7 : Class := { plain "java/lang/String" (some 0) with
  accessFlags := 49
  interfaces := #[2, 3, 4, 5, 6]
  cf := some (fileOf pool7 10 #[.nestMembers #[1103]] #[{ accessFlags := 1, nameIndex := 5, descriptorIndex := 6, attributes := #[] }, { accessFlags := 1, nameIndex := 5, descriptorIndex := 1010, attributes := #[] }, { accessFlags := 1, nameIndex := 692, descriptorIndex := 142, attributes := #[] }, { accessFlags := 9, nameIndex := 782, descriptorIndex := 783, attributes := #[] }, { accessFlags := 2, nameIndex := 5, descriptorIndex := 29, attributes := #[] }, { accessFlags := 0, nameIndex := 5, descriptorIndex := 211, attributes := #[] }] 49 2 #[1106, 1108, 575, 1110, 1112] #[{ accessFlags := 18, nameIndex := 13, descriptorIndex := 14, attributes := #[] }, { accessFlags := 18, nameIndex := 17, descriptorIndex := 18, attributes := #[] }, { accessFlags := 2, nameIndex := 21, descriptorIndex := 22, attributes := #[] }, { accessFlags := 2, nameIndex := 25, descriptorIndex := 26, attributes := #[] }, { accessFlags := 26, nameIndex := 1116, descriptorIndex := 1117, attributes := #[] }, { accessFlags := 24, nameIndex := 40, descriptorIndex := 26, attributes := #[] }, { accessFlags := 26, nameIndex := 1101, descriptorIndex := 1102, attributes := #[] }, { accessFlags := 26, nameIndex := 1121, descriptorIndex := 1122, attributes := #[] }, { accessFlags := 25, nameIndex := 599, descriptorIndex := 600, attributes := #[] }, { accessFlags := 24, nameIndex := 1125, descriptorIndex := 18, attributes := #[] }, { accessFlags := 24, nameIndex := 1127, descriptorIndex := 18, attributes := #[] }])
  fields := #[{ name := "value", type := (.array .byte), accessFlags := 18, slot := 0, constantValue := 0 }, { name := "coder", type := .byte, accessFlags := 18, slot := 1, constantValue := 0 }, { name := "hash", type := .int, accessFlags := 2, slot := 2, constantValue := 0 }, { name := "hashIsZero", type := .boolean, accessFlags := 2, slot := 3, constantValue := 0 }, { name := "serialVersionUID", type := .long, accessFlags := 26, slot := 0, constantValue := 0 }, { name := "COMPACT_STRINGS", type := .boolean, accessFlags := 24, slot := 1, constantValue := 0 }, { name := "serialPersistentFields", type := (.array (.object "java/io/ObjectStreamField")), accessFlags := 26, slot := 2, constantValue := 0 }, { name := "REPL", type := .char, accessFlags := 26, slot := 3, constantValue := 0 }, { name := "CASE_INSENSITIVE_ORDER", type := (.object "java/util/Comparator"), accessFlags := 25, slot := 4, constantValue := 0 }, { name := "LATIN1", type := .byte, accessFlags := 24, slot := 5, constantValue := 0 }, { name := "UTF16", type := .byte, accessFlags := 24, slot := 6, constantValue := 0 }]
  methods := #[k7m0, k7m1, k7m2, k7m3, k7m4, k7m5]
  instanceTypes := #[(.array .byte), .byte, .int, .boolean]
  staticTypes := #[.long, .boolean, (.array (.object "java/io/ObjectStreamField")), .char, (.object "java/util/Comparator"), .byte, .byte]
  resolved := Array.replicate 1451 none
  statics := some 0 }

def pool8 : Array CpInfo := pool [(1, .methodref 2 3), (0, .class_ 4), (0, .nameAndType 5 6), (0, u "java/lang/Object"), (0, u "<init>"), (0, u "()V"), (0, .class_ 8), (0, u "java/lang/Record")] 13

def k8c0 : Code := { maxStack := 1, maxLocals := 1, code := jdk_30_method_1_code, exceptionTable := #[], attributes := #[] }
def k8m0 : Method := { name := "<init>", desc := "()V", sig := { parameters := [], returnType := none }, accessFlags := 4, code := some k8c0 }
/-- java/lang/Record -/
def k8 : Class := { plain "java/lang/Record" (some 0) with
  accessFlags := 1057
  interfaces := #[]
  cf := some (fileOf pool8 7 #[] #[{ accessFlags := 4, nameIndex := 5, descriptorIndex := 6, attributes := #[] }] 1057 2 #[] #[])
  fields := #[]
  methods := #[k8m0]
  instanceTypes := #[]
  staticTypes := #[]
  resolved := Array.replicate 22 none
  statics := none }

def pool9 : Array CpInfo := pool [(1, .methodref 2 3), (0, .class_ 4), (0, .nameAndType 5 6), (0, u "java/lang/Record"), (0, u "<init>"), (0, u "()V"), (0, .fieldref 8 9), (0, .class_ 10), (0, .nameAndType 11 12), (0, u "com/example/titlepoint/titlepoint/FieldDefinition"), (0, u "tag"), (0, u "Ljava/lang/String;"), (0, .fieldref 8 14), (0, .nameAndType 15 12), (0, u "label"), (0, .fieldref 8 17), (0, .nameAndType 18 19), (0, u "fieldRepeatable"), (0, u "Z"), (0, .fieldref 8 21), (0, .nameAndType 22 12), (0, u "indicator1"), (0, .fieldref 8 24), (0, .nameAndType 25 12), (0, u "indicator2"), (0, .fieldref 8 27), (0, .nameAndType 28 12), (0, u "work"), (0, .fieldref 8 30), (0, .nameAndType 31 12), (0, u "expression"), (0, .fieldref 8 33), (0, .nameAndType 34 12), (0, u "others"), (0, .fieldref 8 36), (0, .nameAndType 37 12), (0, u "repeatable"), (0, .fieldref 8 39), (0, .nameAndType 40 12), (0, u "required"), (0, .fieldref 8 42), (0, .nameAndType 43 44), (0, u "subfieldLabels"), (0, u "Ljava/util/Map;"), (0, .fieldref 8 46), (0, .nameAndType 47 12), (0, u "entity"), (0, .fieldref 8 49), (0, .nameAndType 50 12), (0, u "embeds"), (0, .fieldref 8 52), (0, .nameAndType 53 12), (0, u "standardIndicator2"), (36, u "TABLE"), (40, .class_ 132), (0, u "java/lang/String"), (7, .methodref 131 141), (0, .nameAndType 142 143), (0, u "isEmpty"), (0, u "()Z"), (45, u "NO_SUBFIELD_LABELS"), (12, u "WORK_ELEMENTS_BUT_G"), (64, u "SUBFIELD_LABELS"), (14, u "(Ljava/lang/String;Ljava/lang/String;ZLjava/lang/String;Ljava/lang/String;Ljava/lang/String;Ljava/lang/String;Ljava/lang/String;Ljava/lang/String;Ljava/lang/String;Ljava/util/Map;Ljava/lang/String;Ljava/lang/String;Ljava/lang/String;)V"), (58, u "LEGACY_TITLE"), (0, u "Lcom/example/titlepoint/titlepoint/FieldDefinition;"), (2, u "EMBEDDED_FIELD"), (0, u "I"), (2, u "TAG_LENGTH"), (1, u "REPEATABLE_FIELD"), (1, u "NONREPEATABLE_FIELD"), (1, u "BLANK"), (0, u "WORK"), (0, u "EXPRESSION"), (0, u "NO_ENTITY"), (0, u "NO_EMBEDDED_FIELDS"), (0, u "NO_INDICATOR"), (0, u "WORK_ELEMENTS"), (0, u "REPEATABLE_WORK_ELEMENTS"), (2, u "EXPRESSION_ELEMENTS"), (0, u "REPEATABLE_EXPRESSION_ELEMENTS"), (2, u "SUBDIVISIONS"), (2, u "MEDIUM_OF_PERFORMANCE"), (24, u "isAuthorizedAccessPoint")] 62

def k9c0 : Code := { maxStack := 2, maxLocals := 15, code := prog_6_method_1_code, exceptionTable := #[], attributes := #[] }
def k9m0 : Method := { name := "<init>", desc := "(Ljava/lang/String;Ljava/lang/String;ZLjava/lang/String;Ljava/lang/String;Ljava/lang/String;Ljava/lang/String;Ljava/lang/String;Ljava/lang/String;Ljava/lang/String;Ljava/util/Map;Ljava/lang/String;Ljava/lang/String;Ljava/lang/String;)V", sig := { parameters := [(.object "java/lang/String"), (.object "java/lang/String"), .boolean, (.object "java/lang/String"), (.object "java/lang/String"), (.object "java/lang/String"), (.object "java/lang/String"), (.object "java/lang/String"), (.object "java/lang/String"), (.object "java/lang/String"), (.object "java/util/Map"), (.object "java/lang/String"), (.object "java/lang/String"), (.object "java/lang/String")], returnType := none }, accessFlags := 0, code := some k9c0 }
def k9c1 : Code := { maxStack := 1, maxLocals := 1, code := prog_6_method_13_code, exceptionTable := #[], attributes := #[] }
def k9m1 : Method := { name := "isAuthorizedAccessPoint", desc := "()Z", sig := { parameters := [], returnType := some .boolean }, accessFlags := 0, code := some k9c1 }
/-- com/example/titlepoint/titlepoint/FieldDefinition -/
def k9 : Class := { plain "com/example/titlepoint/titlepoint/FieldDefinition" (some 8) with
  accessFlags := 48
  interfaces := #[]
  cf := some (fileOf pool9 8 #[] #[{ accessFlags := 0, nameIndex := 5, descriptorIndex := 282, attributes := #[] }, { accessFlags := 0, nameIndex := 397, descriptorIndex := 143, attributes := #[] }] 48 2 #[] #[{ accessFlags := 18, nameIndex := 11, descriptorIndex := 12, attributes := #[] }, { accessFlags := 18, nameIndex := 15, descriptorIndex := 12, attributes := #[] }, { accessFlags := 18, nameIndex := 18, descriptorIndex := 19, attributes := #[] }, { accessFlags := 18, nameIndex := 22, descriptorIndex := 12, attributes := #[] }, { accessFlags := 18, nameIndex := 25, descriptorIndex := 12, attributes := #[] }, { accessFlags := 18, nameIndex := 28, descriptorIndex := 12, attributes := #[] }, { accessFlags := 18, nameIndex := 31, descriptorIndex := 12, attributes := #[] }, { accessFlags := 18, nameIndex := 34, descriptorIndex := 12, attributes := #[] }, { accessFlags := 18, nameIndex := 37, descriptorIndex := 12, attributes := #[] }, { accessFlags := 18, nameIndex := 40, descriptorIndex := 12, attributes := #[] }, { accessFlags := 18, nameIndex := 43, descriptorIndex := 44, attributes := #[] }, { accessFlags := 18, nameIndex := 47, descriptorIndex := 12, attributes := #[] }, { accessFlags := 18, nameIndex := 50, descriptorIndex := 12, attributes := #[] }, { accessFlags := 18, nameIndex := 53, descriptorIndex := 12, attributes := #[] }, { accessFlags := 24, nameIndex := 345, descriptorIndex := 346, attributes := #[] }, { accessFlags := 26, nameIndex := 349, descriptorIndex := 346, attributes := #[] }, { accessFlags := 26, nameIndex := 351, descriptorIndex := 19, attributes := #[] }, { accessFlags := 26, nameIndex := 353, descriptorIndex := 19, attributes := #[] }, { accessFlags := 26, nameIndex := 355, descriptorIndex := 12, attributes := #[] }, { accessFlags := 26, nameIndex := 356, descriptorIndex := 12, attributes := #[] }, { accessFlags := 26, nameIndex := 357, descriptorIndex := 12, attributes := #[] }, { accessFlags := 26, nameIndex := 358, descriptorIndex := 12, attributes := #[] }, { accessFlags := 26, nameIndex := 189, descriptorIndex := 44, attributes := #[] }, { accessFlags := 26, nameIndex := 359, descriptorIndex := 12, attributes := #[] }, { accessFlags := 26, nameIndex := 360, descriptorIndex := 12, attributes := #[] }, { accessFlags := 26, nameIndex := 361, descriptorIndex := 12, attributes := #[] }, { accessFlags := 26, nameIndex := 362, descriptorIndex := 12, attributes := #[] }, { accessFlags := 26, nameIndex := 202, descriptorIndex := 12, attributes := #[] }, { accessFlags := 26, nameIndex := 365, descriptorIndex := 12, attributes := #[] }, { accessFlags := 26, nameIndex := 366, descriptorIndex := 12, attributes := #[] }, { accessFlags := 26, nameIndex := 369, descriptorIndex := 12, attributes := #[] }, { accessFlags := 26, nameIndex := 372, descriptorIndex := 12, attributes := #[] }, { accessFlags := 26, nameIndex := 267, descriptorIndex := 44, attributes := #[] }, { accessFlags := 26, nameIndex := 90, descriptorIndex := 44, attributes := #[] }, { accessFlags := 24, nameIndex := 341, descriptorIndex := 342, attributes := #[] }])
  fields := #[{ name := "tag", type := (.object "java/lang/String"), accessFlags := 18, slot := 0, constantValue := 0 }, { name := "label", type := (.object "java/lang/String"), accessFlags := 18, slot := 1, constantValue := 0 }, { name := "fieldRepeatable", type := .boolean, accessFlags := 18, slot := 2, constantValue := 0 }, { name := "indicator1", type := (.object "java/lang/String"), accessFlags := 18, slot := 3, constantValue := 0 }, { name := "indicator2", type := (.object "java/lang/String"), accessFlags := 18, slot := 4, constantValue := 0 }, { name := "work", type := (.object "java/lang/String"), accessFlags := 18, slot := 5, constantValue := 0 }, { name := "expression", type := (.object "java/lang/String"), accessFlags := 18, slot := 6, constantValue := 0 }, { name := "others", type := (.object "java/lang/String"), accessFlags := 18, slot := 7, constantValue := 0 }, { name := "repeatable", type := (.object "java/lang/String"), accessFlags := 18, slot := 8, constantValue := 0 }, { name := "required", type := (.object "java/lang/String"), accessFlags := 18, slot := 9, constantValue := 0 }, { name := "subfieldLabels", type := (.object "java/util/Map"), accessFlags := 18, slot := 10, constantValue := 0 }, { name := "entity", type := (.object "java/lang/String"), accessFlags := 18, slot := 11, constantValue := 0 }, { name := "embeds", type := (.object "java/lang/String"), accessFlags := 18, slot := 12, constantValue := 0 }, { name := "standardIndicator2", type := (.object "java/lang/String"), accessFlags := 18, slot := 13, constantValue := 0 }, { name := "EMBEDDED_FIELD", type := .int, accessFlags := 24, slot := 0, constantValue := 0 }, { name := "TAG_LENGTH", type := .int, accessFlags := 26, slot := 1, constantValue := 0 }, { name := "REPEATABLE_FIELD", type := .boolean, accessFlags := 26, slot := 2, constantValue := 0 }, { name := "NONREPEATABLE_FIELD", type := .boolean, accessFlags := 26, slot := 3, constantValue := 0 }, { name := "BLANK", type := (.object "java/lang/String"), accessFlags := 26, slot := 4, constantValue := 0 }, { name := "WORK", type := (.object "java/lang/String"), accessFlags := 26, slot := 5, constantValue := 0 }, { name := "EXPRESSION", type := (.object "java/lang/String"), accessFlags := 26, slot := 6, constantValue := 0 }, { name := "NO_ENTITY", type := (.object "java/lang/String"), accessFlags := 26, slot := 7, constantValue := 0 }, { name := "NO_SUBFIELD_LABELS", type := (.object "java/util/Map"), accessFlags := 26, slot := 8, constantValue := 0 }, { name := "NO_EMBEDDED_FIELDS", type := (.object "java/lang/String"), accessFlags := 26, slot := 9, constantValue := 0 }, { name := "NO_INDICATOR", type := (.object "java/lang/String"), accessFlags := 26, slot := 10, constantValue := 0 }, { name := "WORK_ELEMENTS", type := (.object "java/lang/String"), accessFlags := 26, slot := 11, constantValue := 0 }, { name := "REPEATABLE_WORK_ELEMENTS", type := (.object "java/lang/String"), accessFlags := 26, slot := 12, constantValue := 0 }, { name := "WORK_ELEMENTS_BUT_G", type := (.object "java/lang/String"), accessFlags := 26, slot := 13, constantValue := 0 }, { name := "EXPRESSION_ELEMENTS", type := (.object "java/lang/String"), accessFlags := 26, slot := 14, constantValue := 0 }, { name := "REPEATABLE_EXPRESSION_ELEMENTS", type := (.object "java/lang/String"), accessFlags := 26, slot := 15, constantValue := 0 }, { name := "SUBDIVISIONS", type := (.object "java/lang/String"), accessFlags := 26, slot := 16, constantValue := 0 }, { name := "MEDIUM_OF_PERFORMANCE", type := (.object "java/lang/String"), accessFlags := 26, slot := 17, constantValue := 0 }, { name := "SUBFIELD_LABELS", type := (.object "java/util/Map"), accessFlags := 26, slot := 18, constantValue := 0 }, { name := "TABLE", type := (.object "java/util/Map"), accessFlags := 26, slot := 19, constantValue := 0 }, { name := "LEGACY_TITLE", type := (.object "com/example/titlepoint/titlepoint/FieldDefinition"), accessFlags := 24, slot := 20, constantValue := 0 }]
  methods := #[k9m0, k9m1]
  instanceTypes := #[(.object "java/lang/String"), (.object "java/lang/String"), .boolean, (.object "java/lang/String"), (.object "java/lang/String"), (.object "java/lang/String"), (.object "java/lang/String"), (.object "java/lang/String"), (.object "java/lang/String"), (.object "java/lang/String"), (.object "java/util/Map"), (.object "java/lang/String"), (.object "java/lang/String"), (.object "java/lang/String")]
  staticTypes := #[.int, .int, .boolean, .boolean, (.object "java/lang/String"), (.object "java/lang/String"), (.object "java/lang/String"), (.object "java/lang/String"), (.object "java/util/Map"), (.object "java/lang/String"), (.object "java/lang/String"), (.object "java/lang/String"), (.object "java/lang/String"), (.object "java/lang/String"), (.object "java/lang/String"), (.object "java/lang/String"), (.object "java/lang/String"), (.object "java/lang/String"), (.object "java/util/Map"), (.object "java/util/Map"), (.object "com/example/titlepoint/titlepoint/FieldDefinition")]
  resolved := Array.replicate 460 none
  statics := some 1 }

def pool10 : Array CpInfo := pool [(6, .class_ 8), (1, u "java/lang/Object"), (0, u "<init>"), (0, u "()V"), (1, .class_ 14), (1, u "java/lang/StringUTF16"), (31, u "$assertionsDisabled"), (0, u "Z"), (13, u "HI_BYTE_SHIFT"), (0, u "I"), (2, u "LO_BYTE_SHIFT"), (49, .methodref 12 116), (0, .nameAndType 117 118), (0, u "compress"), (0, u "([CI[BII)I"), (3, u "([CII)[B"), (138, u "coderFromArrayLen"), (0, u "([BI)B"), (106, .class_ 371), (1, u "java/lang/StringUTF16$LinesSpliterator"), (58, u "MAX_LENGTH"), (196, .class_ 628), (0, u "java/lang/StringUTF16$CodePointsSpliterator"), (0, .class_ 630), (0, u "java/lang/StringUTF16$CharsSpliterator")] 4

def k10m0 : Method := { name := "<init>", desc := "()V", sig := { parameters := [], returnType := none }, accessFlags := 0, code := none }
def k10c1 : Code := { maxStack := 2, maxLocals := 2, code := jdk_52_method_15_code, exceptionTable := #[], attributes := #[] }
def k10m1 : Method := { name := "coderFromArrayLen", desc := "([BI)B", sig := { parameters := [(.array .byte), .int], returnType := some .byte }, accessFlags := 8, code := some k10c1 }
def k10c2 : Code := { maxStack := 5, maxLocals := 6, code := jdk_52_method_16_code, exceptionTable := #[], attributes := #[] }
def k10m2 : Method := { name := "compress", desc := "([CII)[B", sig := { parameters := [(.array .char), .int, .int], returnType := some (.array .byte) }, accessFlags := 9, code := some k10c2 }
def k10c3 : Code := { maxStack := 3, maxLocals := 7, code := jdk_52_method_21_code, exceptionTable := #[], attributes := #[] }
def k10m3 : Method := { name := "compress", desc := "([CI[BII)I", sig := { parameters := [(.array .char), .int, (.array .byte), .int, .int], returnType := some .int }, accessFlags := 9, code := some k10c3 }
/-- java/lang/StringUTF16 -/
def k10 : Class := { plain "java/lang/StringUTF16" (some 0) with
  accessFlags := 48
  interfaces := #[]
  cf := some (fileOf pool10 12 #[.nestMembers #[627, 629, 369]] #[{ accessFlags := 0, nameIndex := 9, descriptorIndex := 10, attributes := #[] }, { accessFlags := 8, nameIndex := 261, descriptorIndex := 262, attributes := #[] }, { accessFlags := 9, nameIndex := 117, descriptorIndex := 122, attributes := #[] }, { accessFlags := 9, nameIndex := 117, descriptorIndex := 118, attributes := #[] }] 48 6 #[] #[{ accessFlags := 26, nameIndex := 61, descriptorIndex := 62, attributes := #[] }, { accessFlags := 26, nameIndex := 65, descriptorIndex := 62, attributes := #[] }, { accessFlags := 24, nameIndex := 430, descriptorIndex := 62, attributes := #[] }, { accessFlags := 4120, nameIndex := 46, descriptorIndex := 47, attributes := #[] }])
  fields := #[{ name := "HI_BYTE_SHIFT", type := .int, accessFlags := 26, slot := 0, constantValue := 0 }, { name := "LO_BYTE_SHIFT", type := .int, accessFlags := 26, slot := 1, constantValue := 0 }, { name := "MAX_LENGTH", type := .int, accessFlags := 24, slot := 2, constantValue := 0 }, { name := "$assertionsDisabled", type := .boolean, accessFlags := 4120, slot := 3, constantValue := 0 }]
  methods := #[k10m0, k10m1, k10m2, k10m3]
  instanceTypes := #[]
  staticTypes := #[.int, .int, .int, .boolean]
  resolved := Array.replicate 635 none
  statics := none }

def pool11 : Array CpInfo := pool [(4, .class_ 6), (1, u "java/lang/Object"), (0, u "<init>"), (0, u "()V"), (5, .class_ 16), (1, u "java/lang/StringLatin1"), (73, u "canEncode"), (14, u "(C)Z"), (15, u "$assertionsDisabled"), (0, u "Z"), (98, .class_ 223), (1, u "java/lang/StringLatin1$LinesSpliterator"), (156, u "toBytes"), (1, u "(C)[B"), (7, .class_ 391), (0, u "java/lang/StringLatin1$CharsSpliterator")] 3

def k11m0 : Method := { name := "<init>", desc := "()V", sig := { parameters := [], returnType := none }, accessFlags := 0, code := none }
def k11c1 : Code := { maxStack := 2, maxLocals := 1, code := jdk_43_method_3_code, exceptionTable := #[], attributes := #[] }
def k11m1 : Method := { name := "canEncode", desc := "(C)Z", sig := { parameters := [.char], returnType := some .boolean }, accessFlags := 9, code := some k11c1 }
def k11c2 : Code := { maxStack := 4, maxLocals := 1, code := jdk_43_method_46_code, exceptionTable := #[], attributes := #[] }
def k11m2 : Method := { name := "toBytes", desc := "(C)[B", sig := { parameters := [.char], returnType := some (.array .byte) }, accessFlags := 9, code := some k11c2 }
/-- java/lang/StringLatin1 -/
def k11 : Class := { plain "java/lang/StringLatin1" (some 0) with
  accessFlags := 48
  interfaces := #[]
  cf := some (fileOf pool11 14 #[.nestMembers #[390, 221]] #[{ accessFlags := 0, nameIndex := 7, descriptorIndex := 8, attributes := #[] }, { accessFlags := 9, nameIndex := 90, descriptorIndex := 105, attributes := #[] }, { accessFlags := 9, nameIndex := 380, descriptorIndex := 382, attributes := #[] }] 48 4 #[] #[{ accessFlags := 4120, nameIndex := 121, descriptorIndex := 122, attributes := #[] }])
  fields := #[{ name := "$assertionsDisabled", type := .boolean, accessFlags := 4120, slot := 0, constantValue := 0 }]
  methods := #[k11m0, k11m1, k11m2]
  instanceTypes := #[]
  staticTypes := #[.boolean]
  resolved := Array.replicate 395 none
  statics := none }

def pool12 : Array CpInfo := pool [(2, .class_ 4), (1, u "java/lang/Object"), (0, u "<init>"), (0, u "()V"), (17, .class_ 26), (1, u "jdk/internal/util/Preconditions"), (28, .class_ 56), (0, u "jdk/internal/util/Preconditions$4"), (57, .class_ 115), (0, u "jdk/internal/util/Preconditions$1"), (7, u "SIOOBE_FORMATTER"), (0, u "Ljava/util/function/BiFunction;"), (0, .class_ 126), (0, u "jdk/internal/util/Preconditions$2"), (3, u "AIOOBE_FORMATTER"), (0, .class_ 132), (0, u "jdk/internal/util/Preconditions$3"), (3, u "IOOBE_FORMATTER")] 57

def k12m0 : Method := { name := "<init>", desc := "()V", sig := { parameters := [], returnType := none }, accessFlags := 1, code := none }
/-- jdk/internal/util/Preconditions -/
def k12 : Class := { plain "jdk/internal/util/Preconditions" (some 0) with
  accessFlags := 33
  interfaces := #[]
  cf := some (fileOf pool12 24 #[.nestMembers #[55, 131, 125, 114]] #[{ accessFlags := 1, nameIndex := 5, descriptorIndex := 6, attributes := #[] }] 33 2 #[] #[{ accessFlags := 25, nameIndex := 123, descriptorIndex := 124, attributes := #[] }, { accessFlags := 25, nameIndex := 130, descriptorIndex := 124, attributes := #[] }, { accessFlags := 25, nameIndex := 136, descriptorIndex := 124, attributes := #[] }])
  fields := #[{ name := "SIOOBE_FORMATTER", type := (.object "java/util/function/BiFunction"), accessFlags := 25, slot := 0, constantValue := 0 }, { name := "AIOOBE_FORMATTER", type := (.object "java/util/function/BiFunction"), accessFlags := 25, slot := 1, constantValue := 0 }, { name := "IOOBE_FORMATTER", type := (.object "java/util/function/BiFunction"), accessFlags := 25, slot := 2, constantValue := 0 }]
  methods := #[k12m0]
  instanceTypes := #[]
  staticTypes := #[(.object "java/util/function/BiFunction"), (.object "java/util/function/BiFunction"), (.object "java/util/function/BiFunction")]
  resolved := Array.replicate 194 none
  statics := some 2 }

def pool13 : Array CpInfo := pool [(9, u "<init>"), (6, .class_ 18), (1, u "java/lang/Object"), (0, u "()V"), (1, .class_ 23), (1, u "jdk/internal/util/ArraysSupport"), (0, u "LOG2_ARRAY_LONG_INDEX_SCALE"), (0, u "I"), (2, u "U"), (0, u "Ljdk/internal/misc/Unsafe;"), (8, u "BIG_ENDIAN"), (0, u "Z"), (8, u "LOG2_BYTE_BIT_SIZE"), (4, u "LOG2_ARRAY_INT_INDEX_SCALE"), (54, u "JLA"), (0, u "Ljdk/internal/access/JavaLangAccess;"), (11, u "LOG2_ARRAY_BOOLEAN_INDEX_SCALE"), (9, u "LOG2_ARRAY_BYTE_INDEX_SCALE"), (5, u "LOG2_ARRAY_CHAR_INDEX_SCALE"), (5, u "LOG2_ARRAY_SHORT_INDEX_SCALE"), (18, u "LOG2_ARRAY_FLOAT_INDEX_SCALE"), (24, u "LOG2_ARRAY_DOUBLE_INDEX_SCALE"), (89, u "T_BOOLEAN"), (2, u "T_CHAR"), (1, u "T_FLOAT"), (1, u "T_DOUBLE"), (1, u "T_BYTE"), (1, u "T_SHORT"), (1, u "T_INT"), (1, u "T_LONG"), (1, u "SOFT_MAX_ARRAY_LENGTH")] 83

def k13m0 : Method := { name := "<init>", desc := "()V", sig := { parameters := [], returnType := none }, accessFlags := 2, code := none }
/-- jdk/internal/util/ArraysSupport -/
def k13 : Class := { plain "jdk/internal/util/ArraysSupport" (some 0) with
  accessFlags := 33
  interfaces := #[]
  cf := some (fileOf pool13 21 #[] #[{ accessFlags := 2, nameIndex := 9, descriptorIndex := 19, attributes := #[] }] 33 16 #[] #[{ accessFlags := 24, nameIndex := 28, descriptorIndex := 29, attributes := #[] }, { accessFlags := 26, nameIndex := 38, descriptorIndex := 39, attributes := #[] }, { accessFlags := 25, nameIndex := 121, descriptorIndex := 25, attributes := #[] }, { accessFlags := 25, nameIndex := 131, descriptorIndex := 25, attributes := #[] }, { accessFlags := 25, nameIndex := 137, descriptorIndex := 25, attributes := #[] }, { accessFlags := 25, nameIndex := 143, descriptorIndex := 25, attributes := #[] }, { accessFlags := 25, nameIndex := 53, descriptorIndex := 25, attributes := #[] }, { accessFlags := 25, nameIndex := 24, descriptorIndex := 25, attributes := #[] }, { accessFlags := 25, nameIndex := 162, descriptorIndex := 25, attributes := #[] }, { accessFlags := 25, nameIndex := 187, descriptorIndex := 25, attributes := #[] }, { accessFlags := 26, nameIndex := 48, descriptorIndex := 25, attributes := #[] }, { accessFlags := 25, nameIndex := 277, descriptorIndex := 25, attributes := #[] }, { accessFlags := 25, nameIndex := 280, descriptorIndex := 25, attributes := #[] }, { accessFlags := 25, nameIndex := 282, descriptorIndex := 25, attributes := #[] }, { accessFlags := 25, nameIndex := 284, descriptorIndex := 25, attributes := #[] }, { accessFlags := 25, nameIndex := 286, descriptorIndex := 25, attributes := #[] }, { accessFlags := 25, nameIndex := 288, descriptorIndex := 25, attributes := #[] }, { accessFlags := 25, nameIndex := 290, descriptorIndex := 25, attributes := #[] }, { accessFlags := 25, nameIndex := 292, descriptorIndex := 25, attributes := #[] }, { accessFlags := 26, nameIndex := 108, descriptorIndex := 109, attributes := #[] }, { accessFlags := 25, nameIndex := 294, descriptorIndex := 25, attributes := #[] }])
  fields := #[{ name := "U", type := (.object "jdk/internal/misc/Unsafe"), accessFlags := 24, slot := 0, constantValue := 0 }, { name := "BIG_ENDIAN", type := .boolean, accessFlags := 26, slot := 1, constantValue := 0 }, { name := "LOG2_ARRAY_BOOLEAN_INDEX_SCALE", type := .int, accessFlags := 25, slot := 2, constantValue := 0 }, { name := "LOG2_ARRAY_BYTE_INDEX_SCALE", type := .int, accessFlags := 25, slot := 3, constantValue := 0 }, { name := "LOG2_ARRAY_CHAR_INDEX_SCALE", type := .int, accessFlags := 25, slot := 4, constantValue := 0 }, { name := "LOG2_ARRAY_SHORT_INDEX_SCALE", type := .int, accessFlags := 25, slot := 5, constantValue := 0 }, { name := "LOG2_ARRAY_INT_INDEX_SCALE", type := .int, accessFlags := 25, slot := 6, constantValue := 0 }, { name := "LOG2_ARRAY_LONG_INDEX_SCALE", type := .int, accessFlags := 25, slot := 7, constantValue := 0 }, { name := "LOG2_ARRAY_FLOAT_INDEX_SCALE", type := .int, accessFlags := 25, slot := 8, constantValue := 0 }, { name := "LOG2_ARRAY_DOUBLE_INDEX_SCALE", type := .int, accessFlags := 25, slot := 9, constantValue := 0 }, { name := "LOG2_BYTE_BIT_SIZE", type := .int, accessFlags := 26, slot := 10, constantValue := 0 }, { name := "T_BOOLEAN", type := .int, accessFlags := 25, slot := 11, constantValue := 0 }, { name := "T_CHAR", type := .int, accessFlags := 25, slot := 12, constantValue := 0 }, { name := "T_FLOAT", type := .int, accessFlags := 25, slot := 13, constantValue := 0 }, { name := "T_DOUBLE", type := .int, accessFlags := 25, slot := 14, constantValue := 0 }, { name := "T_BYTE", type := .int, accessFlags := 25, slot := 15, constantValue := 0 }, { name := "T_SHORT", type := .int, accessFlags := 25, slot := 16, constantValue := 0 }, { name := "T_INT", type := .int, accessFlags := 25, slot := 17, constantValue := 0 }, { name := "T_LONG", type := .int, accessFlags := 25, slot := 18, constantValue := 0 }, { name := "JLA", type := (.object "jdk/internal/access/JavaLangAccess"), accessFlags := 26, slot := 19, constantValue := 0 }, { name := "SOFT_MAX_ARRAY_LENGTH", type := .int, accessFlags := 25, slot := 20, constantValue := 0 }]
  methods := #[k13m0]
  instanceTypes := #[]
  staticTypes := #[(.object "jdk/internal/misc/Unsafe"), .boolean, .int, .int, .int, .int, .int, .int, .int, .int, .int, .int, .int, .int, .int, .int, .int, .int, .int, (.object "jdk/internal/access/JavaLangAccess"), .int]
  resolved := Array.replicate 378 none
  statics := none }

def pool14 : Array CpInfo := pool [(1, u "java/lang/Cloneable"), (0, .class_ 1), (0, u "java/lang/Object"), (0, .class_ 3)] 3

/-- java/lang/Cloneable -/
def k14 : Class := { plain "java/lang/Cloneable" (some 0) with
  accessFlags := 1537
  interfaces := #[]
  cf := some (fileOf pool14 2 #[] #[] 1537 4 #[] #[])
  fields := #[]
  methods := #[]
  instanceTypes := #[]
  staticTypes := #[]
  resolved := Array.replicate 8 none
  statics := none }

/-- the primitive byte -/
def k15 : Class := { plain "byte" none with kind := .primitive 'B', accessFlags := 0x411 }
/-- [B -/
def k16 : Class := { plain "[B" (some 0) with kind := .array 15 .byte, interfaces := #[14, 2], accessFlags := 1041 }

/-- the primitive char -/
def k17 : Class := { plain "char" none with kind := .primitive 'C', accessFlags := 0x411 }
/-- [C -/
def k18 : Class := { plain "[C" (some 0) with kind := .array 17 .char, interfaces := #[14, 2], accessFlags := 1041 }

/-- the primitive int -/
def k19 : Class := { plain "int" none with kind := .primitive 'I', accessFlags := 0x411 }
/-- [I -/
def k20 : Class := { plain "[I" (some 0) with kind := .array 19 .int, interfaces := #[14, 2], accessFlags := 1041 }

def heap : Heap := #[{ cls := 7, slots := #[.long 0, .int 1, .null, .int 0, .null, .int 0, .int 0], vm := .statics 7 },
  { cls := 9, slots := #[.int 0, .int 0, .int 0, .int 0, .null, .null, .null, .null, .null, .null, .null, .null, .null, .null, .null, .null, .null, .null, .null, .null, .ref 5], vm := .statics 9 },
  { cls := 12, slots := #[.null, .null, .null], vm := .statics 12 },
  { cls := 16, slots := #[], vm := .none },
  { cls := 7, slots := #[.ref 3, .int 0, .int 0, .int 0], vm := .none },
  { cls := 9, slots := #[.null, .null, .int 0, .null, .null, .null, .null, .null, .null, .null, .null, .ref 4, .null, .null], vm := .none }]
def classes : Array Class := #[k0, k1, k2, k3, k4, k5, k6, k7, k8, k9, k10, k11, k12, k13, k14, k15, k16, k17, k18, k19, k20]
def interned : List (Array UInt16 × Addr) := []
def slotsUsed : Nat := 49
def theMethod : MethodId := ⟨1, 2⟩
def args0 : Array Value := #[.int 3, .int 65, .int 66, .int 67, .int 2]
def aboutOver (below : List Frame) : State where
  vm := { classes := classes, interned := interned.toArray }
  heap := heap
  slotsUsed := slotsUsed
  threads := #[{ frames := .invoking theMethod args0 :: below }]
def below0 : List Frame := [.native { method := ⟨0, 0⟩, args := #[] }]
def about1 : State := aboutOver below0
def p0 : Program := .bare "" "" ""
def e0 : Env := launch0.env 0 0 0
theorem w_frames : about1.frames = Frame.invoking theMethod args0 :: below0 := rfl
set_option maxRecDepth 65536 in
theorem w_args : argsFit about1.vm theMethod args0 = true := by decide +kernel
set_option maxRecDepth 65536 in
theorem w_heap : heapFits about1 = true := by decide +kernel
set_option maxRecDepth 65536 in
theorem w_runnable : about1.curStatus? = some .runnable := by decide +kernel
set_option maxRecDepth 65536 in
theorem w_alone : about1.alone = true := by decide +kernel
set_option maxRecDepth 65536 in
theorem w_named : about1.methodNamed? x = some theMethod := by decide +kernel
set_option maxRecDepth 65536 in
theorem w_hears : about1.hears theMethod below0 = true := by decide +kernel
set_option maxRecDepth 65536 in
theorem w_ripe : about1.ripe theMethod args0 below0 = true := by decide +kernel
theorem w_running : about1.status = .running := rfl
set_option maxRecDepth 65536 in
theorem w_room : about1.hasRoom e0.platform room_1 = true :=
  launch0.hasRoom_least _ room_1 (by decide +kernel) (by decide +kernel) (by decide +kernel) (by decide +kernel) (by decide +kernel) (by decide +kernel)
theorem allAtoms_all (ts : List Jvm.Cond) (a : Array Jvm.Value) (st : Jvm.State) : (allAtoms ts).before a st = ts.all (fun c => c.before a st) := by
  induction ts with
  | nil => rfl
  | cons c t ih =>
    show (Jvm.Cond.and c (allAtoms t)).before a st = _
    rw [Jvm.Cond.before_and, ih, List.all_cons]
def words1 : List Jvm.Cond := Jvm.Cond.code x code maxLocals ret :: tables_1
/-- a 'code' word, met by the world's own term for the bytes: nothing is compared byte by byte -/
theorem code_word {y : MethodName} {bytes : ByteArray} {mx : Nat} {rt : Option FieldType} {a : Array Value} {s : State} {m : MethodId} {meth : Method} {c : Code} (h1 : s.methodNamed? y = some m) (h2 : s.vm.method? m = some meth) (h3 : meth.code = some c) (h4 : c.code = bytes)
    (h5 : (c.maxLocals == mx && c.exceptionTable.isEmpty && decide (c.maxStack ≤ mostOperands) && decide (meth.sig.returnType = rt) && !meth.locks && decide (parseMethodDescriptor y.desc = some meth.sig)) = true) : (Jvm.Cond.code y bytes mx rt).before a s = true := by
  simp only [Bool.and_eq_true, beq_iff_eq, Bool.not_eq_true', decide_eq_true_eq] at h5
  obtain ⟨⟨⟨⟨⟨g1, g2⟩, g3⟩, g4⟩, g5⟩, g6⟩ := h5
  simp [Cond.before, Cond.holds, Cond.value, h1, h2, h3, h4, g1, g2, g3, g4, g5, g6]
def isCode : Jvm.Cond → Bool
  | .code _ _ _ _ => true
  | _ => false
theorem all_split {L : List Jvm.Cond} {P : Jvm.Cond → Bool} (h1 : L.all (fun c => isCode c || P c) = true) (h2 : ∀ c ∈ L.filter isCode, P c = true) : L.all P = true := by
  refine List.all_eq_true.mpr fun c hc => ?_
  have h := List.all_eq_true.mp h1 c hc
  rcases Bool.eq_false_or_eq_true (isCode c) with hi | hi
  · exact h2 c (List.mem_filter.mpr ⟨hc, hi⟩)
  · simpa [hi] using h
set_option maxRecDepth 65536 in
theorem w_c0 : (Jvm.Cond.code x code maxLocals ret).before args0 about1 = true := code_word (m := ⟨1, 2⟩) (meth := k1m2) (c := k1c2) (by decide +kernel) rfl rfl rfl (by decide +kernel)
set_option maxRecDepth 65536 in
theorem w_c1 : (Jvm.Cond.code ({ cls := "com/example/titlepoint/titlepoint/FieldDefinitionIsAuthorizedAccessPointPinLaw", name := "drawn", desc := "(ICCC)Ljava/lang/String;" } : Jvm.MethodName) method_2_code (4 : Nat) (Option.some (Jvm.ClassFile.FieldType.object "java/lang/String"))).before args0 about1 = true := code_word (m := ⟨1, 1⟩) (meth := k1m1) (c := k1c1) (by decide +kernel) rfl rfl rfl (by decide +kernel)
set_option maxRecDepth 65536 in
theorem w_c2 : (Jvm.Cond.code ({ cls := "com/example/titlepoint/titlepoint/FieldDefinition", name := "<init>", desc := "(Ljava/lang/String;Ljava/lang/String;ZLjava/lang/String;Ljava/lang/String;Ljava/lang/String;Ljava/lang/String;Ljava/lang/String;Ljava/lang/String;Ljava/lang/String;Ljava/util/Map;Ljava/lang/String;Ljava/lang/String;Ljava/lang/String;)V" } : Jvm.MethodName) prog_6_method_1_code (15 : Nat) (Option.none : Option Jvm.ClassFile.FieldType)).before args0 about1 = true := code_word (m := ⟨9, 0⟩) (meth := k9m0) (c := k9c0) (by decide +kernel) rfl rfl rfl (by decide +kernel)
set_option maxRecDepth 65536 in
theorem w_c3 : (Jvm.Cond.code ({ cls := "java/lang/Record", name := "<init>", desc := "()V" } : Jvm.MethodName) jdk_30_method_1_code (1 : Nat) (Option.none : Option Jvm.ClassFile.FieldType)).before args0 about1 = true := code_word (m := ⟨8, 0⟩) (meth := k8m0) (c := k8c0) (by decide +kernel) rfl rfl rfl (by decide +kernel)
set_option maxRecDepth 65536 in
theorem w_c4 : (Jvm.Cond.code ({ cls := "java/lang/Object", name := "<init>", desc := "()V" } : Jvm.MethodName) object_method_1_code (1 : Nat) (Option.none : Option Jvm.ClassFile.FieldType)).before args0 about1 = true := code_word (m := ⟨0, 0⟩) (meth := k0m0) (c := k0c0) (by decide +kernel) rfl rfl rfl (by decide +kernel)
set_option maxRecDepth 65536 in
theorem w_c5 : (Jvm.Cond.code ({ cls := "com/example/titlepoint/titlepoint/FieldDefinition", name := "isAuthorizedAccessPoint", desc := "()Z" } : Jvm.MethodName) prog_6_method_13_code (1 : Nat) (Option.some Jvm.ClassFile.FieldType.boolean)).before args0 about1 = true := code_word (m := ⟨9, 1⟩) (meth := k9m1) (c := k9c1) (by decide +kernel) rfl rfl rfl (by decide +kernel)
set_option maxRecDepth 65536 in
theorem w_c6 : (Jvm.Cond.code ({ cls := "java/lang/String", name := "isEmpty", desc := "()Z" } : Jvm.MethodName) jdk_42_method_55_code (1 : Nat) (Option.some Jvm.ClassFile.FieldType.boolean)).before args0 about1 = true := code_word (m := ⟨7, 2⟩) (meth := k7m2) (c := k7c2) (by decide +kernel) rfl rfl rfl (by decide +kernel)
set_option maxRecDepth 65536 in
theorem w_c7 : (Jvm.Cond.code ({ cls := "java/lang/String", name := "<init>", desc := "([C)V" } : Jvm.MethodName) jdk_42_method_3_code (2 : Nat) (Option.none : Option Jvm.ClassFile.FieldType)).before args0 about1 = true := code_word (m := ⟨7, 1⟩) (meth := k7m1) (c := k7c1) (by decide +kernel) rfl rfl rfl (by decide +kernel)
set_option maxRecDepth 65536 in
theorem w_c8 : (Jvm.Cond.code ({ cls := "java/lang/String", name := "<init>", desc := "([CIILjava/lang/Void;)V" } : Jvm.MethodName) jdk_42_method_149_code (6 : Nat) (Option.none : Option Jvm.ClassFile.FieldType)).before args0 about1 = true := code_word (m := ⟨7, 4⟩) (meth := k7m4) (c := k7c4) (by decide +kernel) rfl rfl rfl (by decide +kernel)
set_option maxRecDepth 65536 in
theorem w_c9 : (Jvm.Cond.code ({ cls := "java/lang/StringUTF16", name := "compress", desc := "([CII)[B" } : Jvm.MethodName) jdk_52_method_16_code (6 : Nat) (Option.some (Jvm.ClassFile.FieldType.array Jvm.ClassFile.FieldType.byte))).before args0 about1 = true := code_word (m := ⟨10, 2⟩) (meth := k10m2) (c := k10c2) (by decide +kernel) rfl rfl rfl (by decide +kernel)
set_option maxRecDepth 65536 in
theorem w_c10 : (Jvm.Cond.code ({ cls := "java/lang/StringUTF16", name := "compress", desc := "([CI[BII)I" } : Jvm.MethodName) jdk_52_method_21_code (7 : Nat) (Option.some Jvm.ClassFile.FieldType.int)).before args0 about1 = true := code_word (m := ⟨10, 3⟩) (meth := k10m3) (c := k10c3) (by decide +kernel) rfl rfl rfl (by decide +kernel)
set_option maxRecDepth 65536 in
theorem w_c11 : (Jvm.Cond.code ({ cls := "java/lang/StringUTF16", name := "coderFromArrayLen", desc := "([BI)B" } : Jvm.MethodName) jdk_52_method_15_code (2 : Nat) (Option.some Jvm.ClassFile.FieldType.byte)).before args0 about1 = true := code_word (m := ⟨10, 1⟩) (meth := k10m1) (c := k10c1) (by decide +kernel) rfl rfl rfl (by decide +kernel)
set_option maxRecDepth 65536 in
theorem w_c12 : (Jvm.Cond.code ({ cls := "java/lang/String", name := "valueOf", desc := "(C)Ljava/lang/String;" } : Jvm.MethodName) jdk_42_method_139_code (1 : Nat) (Option.some (Jvm.ClassFile.FieldType.object "java/lang/String"))).before args0 about1 = true := code_word (m := ⟨7, 3⟩) (meth := k7m3) (c := k7c3) (by decide +kernel) rfl rfl rfl (by decide +kernel)
set_option maxRecDepth 65536 in
theorem w_c13 : (Jvm.Cond.code ({ cls := "java/lang/StringLatin1", name := "canEncode", desc := "(C)Z" } : Jvm.MethodName) jdk_43_method_3_code (1 : Nat) (Option.some Jvm.ClassFile.FieldType.boolean)).before args0 about1 = true := code_word (m := ⟨11, 1⟩) (meth := k11m1) (c := k11c1) (by decide +kernel) rfl rfl rfl (by decide +kernel)
set_option maxRecDepth 65536 in
theorem w_c14 : (Jvm.Cond.code ({ cls := "java/lang/StringLatin1", name := "toBytes", desc := "(C)[B" } : Jvm.MethodName) jdk_43_method_46_code (1 : Nat) (Option.some (Jvm.ClassFile.FieldType.array Jvm.ClassFile.FieldType.byte))).before args0 about1 = true := code_word (m := ⟨11, 2⟩) (meth := k11m2) (c := k11c2) (by decide +kernel) rfl rfl rfl (by decide +kernel)
set_option maxRecDepth 65536 in
theorem w_c15 : (Jvm.Cond.code ({ cls := "java/lang/String", name := "<init>", desc := "([BB)V" } : Jvm.MethodName) jdk_42_method_151_code (3 : Nat) (Option.none : Option Jvm.ClassFile.FieldType)).before args0 about1 = true := code_word (m := ⟨7, 5⟩) (meth := k7m5) (c := k7c5) (by decide +kernel) rfl rfl rfl (by decide +kernel)
def codes1 : List Jvm.Cond := [Jvm.Cond.code x code maxLocals ret, Jvm.Cond.code ({ cls := "com/example/titlepoint/titlepoint/FieldDefinitionIsAuthorizedAccessPointPinLaw", name := "drawn", desc := "(ICCC)Ljava/lang/String;" } : Jvm.MethodName) method_2_code (4 : Nat) (Option.some (Jvm.ClassFile.FieldType.object "java/lang/String")), Jvm.Cond.code ({ cls := "com/example/titlepoint/titlepoint/FieldDefinition", name := "<init>", desc := "(Ljava/lang/String;Ljava/lang/String;ZLjava/lang/String;Ljava/lang/String;Ljava/lang/String;Ljava/lang/String;Ljava/lang/String;Ljava/lang/String;Ljava/lang/String;Ljava/util/Map;Ljava/lang/String;Ljava/lang/String;Ljava/lang/String;)V" } : Jvm.MethodName) prog_6_method_1_code (15 : Nat) (Option.none : Option Jvm.ClassFile.FieldType), Jvm.Cond.code ({ cls := "java/lang/Record", name := "<init>", desc := "()V" } : Jvm.MethodName) jdk_30_method_1_code (1 : Nat) (Option.none : Option Jvm.ClassFile.FieldType), Jvm.Cond.code ({ cls := "java/lang/Object", name := "<init>", desc := "()V" } : Jvm.MethodName) object_method_1_code (1 : Nat) (Option.none : Option Jvm.ClassFile.FieldType), Jvm.Cond.code ({ cls := "com/example/titlepoint/titlepoint/FieldDefinition", name := "isAuthorizedAccessPoint", desc := "()Z" } : Jvm.MethodName) prog_6_method_13_code (1 : Nat) (Option.some Jvm.ClassFile.FieldType.boolean), Jvm.Cond.code ({ cls := "java/lang/String", name := "isEmpty", desc := "()Z" } : Jvm.MethodName) jdk_42_method_55_code (1 : Nat) (Option.some Jvm.ClassFile.FieldType.boolean), Jvm.Cond.code ({ cls := "java/lang/String", name := "<init>", desc := "([C)V" } : Jvm.MethodName) jdk_42_method_3_code (2 : Nat) (Option.none : Option Jvm.ClassFile.FieldType), Jvm.Cond.code ({ cls := "java/lang/String", name := "<init>", desc := "([CIILjava/lang/Void;)V" } : Jvm.MethodName) jdk_42_method_149_code (6 : Nat) (Option.none : Option Jvm.ClassFile.FieldType), Jvm.Cond.code ({ cls := "java/lang/StringUTF16", name := "compress", desc := "([CII)[B" } : Jvm.MethodName) jdk_52_method_16_code (6 : Nat) (Option.some (Jvm.ClassFile.FieldType.array Jvm.ClassFile.FieldType.byte)), Jvm.Cond.code ({ cls := "java/lang/StringUTF16", name := "compress", desc := "([CI[BII)I" } : Jvm.MethodName) jdk_52_method_21_code (7 : Nat) (Option.some Jvm.ClassFile.FieldType.int), Jvm.Cond.code ({ cls := "java/lang/StringUTF16", name := "coderFromArrayLen", desc := "([BI)B" } : Jvm.MethodName) jdk_52_method_15_code (2 : Nat) (Option.some Jvm.ClassFile.FieldType.byte), Jvm.Cond.code ({ cls := "java/lang/String", name := "valueOf", desc := "(C)Ljava/lang/String;" } : Jvm.MethodName) jdk_42_method_139_code (1 : Nat) (Option.some (Jvm.ClassFile.FieldType.object "java/lang/String")), Jvm.Cond.code ({ cls := "java/lang/StringLatin1", name := "canEncode", desc := "(C)Z" } : Jvm.MethodName) jdk_43_method_3_code (1 : Nat) (Option.some Jvm.ClassFile.FieldType.boolean), Jvm.Cond.code ({ cls := "java/lang/StringLatin1", name := "toBytes", desc := "(C)[B" } : Jvm.MethodName) jdk_43_method_46_code (1 : Nat) (Option.some (Jvm.ClassFile.FieldType.array Jvm.ClassFile.FieldType.byte)), Jvm.Cond.code ({ cls := "java/lang/String", name := "<init>", desc := "([BB)V" } : Jvm.MethodName) jdk_42_method_151_code (3 : Nat) (Option.none : Option Jvm.ClassFile.FieldType)]
set_option maxRecDepth 65536 in
theorem codes_eq : words1.filter isCode = codes1 := rfl
theorem w_codes : ∀ c ∈ words1.filter isCode, c.before args0 about1 = true := by
  rw [codes_eq]
  intro c hc
  simp only [codes1, List.mem_cons, List.not_mem_nil, or_false] at hc
  rcases hc with rfl | rfl | rfl | rfl | rfl | rfl | rfl | rfl | rfl | rfl | rfl | rfl | rfl | rfl | rfl | rfl
  · exact w_c0
  · exact w_c1
  · exact w_c2
  · exact w_c3
  · exact w_c4
  · exact w_c5
  · exact w_c6
  · exact w_c7
  · exact w_c8
  · exact w_c9
  · exact w_c10
  · exact w_c11
  · exact w_c12
  · exact w_c13
  · exact w_c14
  · exact w_c15
set_option maxRecDepth 65536 in
theorem w_t1 : (words1.take 24).all (fun c => isCode c || c.before args0 about1) = true := by decide +kernel
set_option maxRecDepth 65536 in
theorem w_t2 : ((words1.drop 24).take 24).all (fun c => isCode c || c.before args0 about1) = true := by decide +kernel
set_option maxRecDepth 65536 in
theorem w_t3 : (((words1.drop 24).drop 24).take 24).all (fun c => isCode c || c.before args0 about1) = true := by decide +kernel
set_option maxRecDepth 65536 in
theorem w_t4 : ((((words1.drop 24).drop 24).drop 24).take 24).all (fun c => isCode c || c.before args0 about1) = true := by decide +kernel
set_option maxRecDepth 65536 in
theorem w_t5 : ((((words1.drop 24).drop 24).drop 24).drop 24).all (fun c => isCode c || c.before args0 about1) = true := by decide +kernel
theorem w_tables : (allAtoms (Jvm.Cond.code x code maxLocals ret :: tables_1)).before args0 about1 = true := by
  rw [allAtoms_all]
  show words1.all (fun c => c.before args0 about1) = true
  refine all_split ?_ w_codes
  rw [← List.take_append_drop 24 words1, List.all_append, w_t1, ← List.take_append_drop 24 (words1.drop 24), List.all_append, w_t2, ← List.take_append_drop 24 ((words1.drop 24).drop 24), List.all_append, w_t3, ← List.take_append_drop 24 (((words1.drop 24).drop 24).drop 24), List.all_append, w_t4, w_t5]
  rfl
set_option maxRecDepth 65536 in
theorem w_rest : rest_1_c.before args0 about1 = true := by decide +kernel
set_option maxRecDepth 65536 in
theorem w_case : (Jvm.Cond.and given_1 narrow_1).before args0 about1 = true := by decide +kernel
set_option maxRecDepth 65536 in
theorem w_consts : constsHeld consts_1 about1 := Jvm.Lit.constsHeldB_iff.mp (by decide +kernel)
theorem w_applies : (headSpec (Jvm.Cond.code x code maxLocals ret :: tables_1) room_1).applies x e0.platform about1 = true :=
  (Spec.applies_iff w_frames).mpr ⟨w_running, w_runnable, w_alone, w_named, w_hears, w_ripe, w_room, w_tables⟩
theorem atStart : AtStart classFile x code maxLocals ret World_1 tables_1 room_1 Calls_1 rest_1 Pre_1 launch0 p0 e0 about1 theMethod args0 below0 :=
  ⟨lists_1, trivial, launch0.admits_env _ _ _, launch0.least_env, fairChoices_fair.cas, fairChoices_fair.clock, w_frames, w_args, w_heap, w_applies, ⟨w_consts, trivial⟩, w_rest, w_case⟩
end start1
theorem witness_1 : WitnessClaimed_1 := ⟨start1.p0, start1.e0, start1.about1, start1.theMethod, start1.args0, start1.below0, start1.atStart⟩
end Jvm.Pilot.@@N@@
