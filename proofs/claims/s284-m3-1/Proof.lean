import JvmDerived
import JvmDerived.Pilot.@@N@@Statement
import JvmDerived.Pilot.@@N@@Code
set_option linter.unusedVariables false
set_option linter.unusedSimpArgs false
namespace Jvm.RoadKit
open Sem ClassFile Op Lib Jvm.Stand Jvm.Free Jvm.LawKit
def RAr (Z : State) (h : Heap) (a : Addr) (ty : FieldType) (n : Int32) (f : Nat → Addr) : Prop := ∃ c : Cell, Arr Z h a c ty ∧ c.slots.size = n.toNatClampNeg ∧ ¬ n < 0 ∧ ∀ i, i < c.slots.size → c.slots[i]? = some (.ref (f i))
section
variable {Z : State} {h h' : Heap} {a b : Addr} {ty : FieldType} {n : Int32} {f : Nat → Addr} {sl : Nat} {v : Value} {ws : List Addr}
theorem RAr.lt (F : RAr Z h a ty n f) : a < h.size := by obtain ⟨c, A, -⟩ := F; exact A.lt
theorem RAr.ext (F : RAr Z h a ty n f) (E : Ext h h') : RAr Z h' a ty n f := by obtain ⟨c, A, r⟩ := F; exact ⟨c, A.ext E, r⟩
theorem RAr.other (F : RAr Z h b ty n f) (W : Wr h h' a sl v) (q : b ≠ a) : RAr Z h' b ty n f := by obtain ⟨c, A, r⟩ := F; exact ⟨c, A.other W q, r⟩
theorem RAr.keep (F : RAr Z h a ty n f) (K : Keep h h' ws) (q : a ∉ ws) : RAr Z h' a ty n f := by obtain ⟨c, A, r⟩ := F; exact ⟨c, ⟨K.2.1 a c A.1 q, A.2⟩, r⟩
theorem own_staK0 {C m d : String} {w : Value} (S : Sta Z h C m d w) (K : Keep h h' []) : Sta Z h' C m d w := by
  obtain ⟨cf, i, k, f, st, cell, h1, h2, h3, h4, h5, h6, h7⟩ := S
  exact ⟨cf, i, k, f, st, cell, h1, h2, h3, h4, K.2.1 st cell h5 nin0, h6, h7⟩
theorem own_staK {C m d : String} {w : Value} (S : Sta Z h C m d w) (K : Keep h h' ws) (hw : ∀ x ∈ ws, ∀ cell : Cell, h[x]? = some cell → cell.vm.isStatics = false) : Sta Z h' C m d w := by
  obtain ⟨cf, i, k, f, st, cell, h1, h2, h3, h4, h5, h6, h7⟩ := S
  exact ⟨cf, i, k, f, st, cell, h1, h2, h3, h4, K.2.1 st cell h5 (fun q => by have z := hw st q cell h5; rw [h6] at z; cases z), h6, h7⟩
theorem own_ns0 : ∀ x ∈ ([] : List Addr), ∀ cell : Cell, h[x]? = some cell → cell.vm.isStatics = false := fun _ q => nomatch q
theorem own_nsS (n : ∀ cell : Cell, h[a]? = some cell → cell.vm.isStatics = false) (r : ∀ x ∈ ws, ∀ cell : Cell, h[x]? = some cell → cell.vm.isStatics = false) : ∀ x ∈ a :: ws, ∀ cell : Cell, h[x]? = some cell → cell.vm.isStatics = false := fun x q => by
  rcases List.mem_cons.mp q with rfl | q
  · exact n
  · exact r x q
theorem own_staK1 {C m d D : String} {w : Value} (S : Sta Z h C m d w) (K : Keep h h' [a]) (E : Exa Z h a D) : Sta Z h' C m d w := by
  obtain ⟨cf, i, k, f, st, cell, h1, h2, h3, h4, h5, h6, h7⟩ := S
  obtain ⟨c2, k2, g1, g2, g3, g4, g5⟩ := E
  have ne : st ≠ a := fun e => by
    subst e
    cases h5.symm.trans g1
    rw [g4] at h6
    cases h6
  exact ⟨cf, i, k, f, st, cell, h1, h2, h3, h4, K.2.1 st cell h5 (ninS ne nin0), h6, h7⟩
end
def IAr (Z : State) (h : Heap) (a : Addr) (ty : FieldType) (n : Int32) (f : Nat → Int32) : Prop := ∃ c : Cell, Arr Z h a c ty ∧ c.slots.size = n.toNatClampNeg ∧ ¬ n < 0 ∧ ∀ i, i < c.slots.size → c.slots[i]? = some (.int (f i))
def ownU (f : Nat → Int32) (j : Nat) (v : Int32) : Nat → Int32 := fun i => if i = j then v else f i
section
variable {Z : State} {h h' : Heap} {a b : Addr} {ty : FieldType} {n : Int32} {f : Nat → Int32} {sl : Nat} {v : Value} {ws : List Addr}
theorem IAr.lt (F : IAr Z h a ty n f) : a < h.size := by obtain ⟨c, A, -⟩ := F; exact A.lt
theorem IAr.ext (F : IAr Z h a ty n f) (E : Ext h h') : IAr Z h' a ty n f := by obtain ⟨c, A, r⟩ := F; exact ⟨c, A.ext E, r⟩
theorem IAr.other (F : IAr Z h b ty n f) (W : Wr h h' a sl v) (q : b ≠ a) : IAr Z h' b ty n f := by obtain ⟨c, A, r⟩ := F; exact ⟨c, A.other W q, r⟩
theorem IAr.keep (F : IAr Z h a ty n f) (K : Keep h h' ws) (q : a ∉ ws) : IAr Z h' a ty n f := by obtain ⟨c, A, r⟩ := F; exact ⟨c, ⟨K.2.1 a c A.1 q, A.2⟩, r⟩
theorem IAr.nostat (F : IAr Z h a ty n f) : ∀ cell : Cell, h[a]? = some cell → cell.vm.isStatics = false := by obtain ⟨c, A, r⟩ := F; exact Arr.nostat A
theorem IAr.nn (F : IAr Z h a ty n f) : ¬ n < 0 := by obtain ⟨c, A, S, q, r⟩ := F; exact q
theorem IAr.new {k : ClassId} {z : Int32} (A : Arr Z h a (newA k ty z) ty) (q : ¬ z < 0) (hd : defaultValue ty = .int 0) : IAr Z h a ty z (fun _ => 0) := by
  obtain ⟨c, A', -, S, q', H, -⟩ := Arv.new A q
  exact ⟨c, A', S, q', fun i hi => by have h1 := H i hi; rw [hd] at h1; simpa using h1⟩
theorem IAr.set {j : Nat} {x : Int32} (F : IAr Z h a ty n f) (W : Wr h h' a j (.int x)) : IAr Z h' a ty n (ownU f j x) := by
  obtain ⟨c, A, S, q, H⟩ := F
  refine ⟨c.setSlot j (.int x), A.same W, ?_, q, fun i hi => ?_⟩
  · simpa [Cell.setSlot] using S
  · have hi' : i < c.slots.size := by simpa [Cell.setSlot] using hi
    show (c.slots.setIfInBounds j (.int x))[i]? = some (.int (if i = j then x else f i))
    by_cases e : i = j
    · subst e
      rw [if_pos rfl, Array.getElem?_setIfInBounds_self_of_lt hi']
    · rw [if_neg e, Array.getElem?_setIfInBounds_ne (Ne.symm e)]
      exact H i hi'
end
section New
variable {p : Program} {l : Launch} {e : Env} {R : Room} {s : State} {m : MethodId} {args : Array Value} {below : List Frame} {meth : Method} {c : Code} {T : State} {locs : List Loc} {cells slots : Nat}
theorem retI (X : Stand p l e R s m args below meth c T locs cells slots) (hx : p.tables.exec = Jvm.exec) {pc : Nat} {Ls : Array Slot} {z : Int32} {rest : List Value} (hret : meth.sig.returnType = some .int) (hd : decode c.code pc = .ok (.ireturn, 1)) {fs : List Frame}
    (hl : ∀ (f : JFrame) (acts : List Action), f.method = m → f.locked = none → f.entered = [] → (doReturn e (T.setTop f) acts (some (.int z))).1 = T.setFrames fs) : Steps p.tables e below (T.setTop (mkF m pc Ls (.int z :: rest))) (T.setFrames fs) := by
  have hm' : T.vm.method? m = some meth := X.method'
  have hn : narrow .int (.int z) = .int z := rfl
  show Steps p.tables e below (T.setTop { method := m, pc := pc, locals := Ls, stack := _ :: rest, locked := none }) _
  jvm_step X.here [X.here.top, hx, hd, hm', hret, hn]
  first | (intro acts; rw [hl _ acts rfl rfl rfl]) | rw [hl _ _ rfl rfl rfl]
  exact Steps.refl _
theorem ldB {Z : State} {h : Heap} (X : Stand p l e R s m args below meth c T locs cells slots) (hx : p.tables.exec = Jvm.exec) (hZ : Z.Warmed39 s.vm) (eT : T.heap = h) {a : Addr} {n : Int32} {f : Nat → Int32} (F : IAr Z h a .byte n f) {j : Int32} (hj : ¬ j < 0 ∧ j < n) {g : JFrame} (hg : g.method = m) {rest : List Value} (hs : g.stack = .int j :: .ref a :: rest) (hd : decode c.code g.pc = .ok (.baload, 1)) {target : State}
    (hr : Steps p.tables e below (T.setTop { g with pc := g.pc + 1, stack := .int (f j.toNatClampNeg) :: rest }) target) : Steps p.tables e below (T.setTop g) target := by
  obtain ⟨cl, A, S, q, H⟩ := F
  exact X.baloadBytes hx (by rw [eT]; exact A.1) (State.isArrayOf_alike hZ.alike A.2.1) A.2.2 (inb_of S hj) (H _ (Nat.lt_of_not_le fun y => inb_of S hj (Or.inr y))) hg hs hd _ hr
theorem sB {Z : State} {h : Heap} (X : Stand p l e R s m args below meth c T locs cells slots) (hx : p.tables.exec = Jvm.exec) (hZ : Z.Warmed39 s.vm) (eT : T.heap = h) {a : Addr} {n : Int32} {f : Nat → Int32} (F : IAr Z h a .byte n f) {j : Int32} {x : Int32} (hj : ¬ j < 0 ∧ j < n) {g : JFrame} (hg : g.method = m) {rest : List Value} (hs : g.stack = .int x :: .int j :: .ref a :: rest) (hd : decode c.code g.pc = .ok (.bastore, 1)) :
    ∃ T' h', Stand p l e R s m args below meth c T' (locs ++ [⟨a, j.toNatClampNeg⟩]) cells slots ∧ T'.heap = h' ∧ Wr h h' a j.toNatClampNeg (.int (nar .byte x)) ∧ IAr Z h' a .byte n (ownU f j.toNatClampNeg (nar .byte x)) ∧ ∀ target, Steps p.tables e below (T'.setTop { g with pc := g.pc + 1, stack := rest }) target → Steps p.tables e below (T.setTop g) target := by
  have F' := F
  obtain ⟨cl, A, S, q, H⟩ := F
  obtain ⟨T', h', X', e', W', st'⟩ := stB X hx hZ eT A (inb_of S hj) hg hs hd
  exact ⟨T', h', X', e', W', F'.set W', st'⟩
theorem ldC {Z : State} {h : Heap} (X : Stand p l e R s m args below meth c T locs cells slots) (hx : p.tables.exec = Jvm.exec) (hZ : Z.Warmed39 s.vm) (eT : T.heap = h) {a : Addr} {n : Int32} {f : Nat → Int32} (F : IAr Z h a .char n f) {j : Int32} (hj : ¬ j < 0 ∧ j < n) {g : JFrame} (hg : g.method = m) {rest : List Value} (hs : g.stack = .int j :: .ref a :: rest) (hd : decode c.code g.pc = .ok (.caload, 1)) {target : State}
    (hr : Steps p.tables e below (T.setTop { g with pc := g.pc + 1, stack := .int (f j.toNatClampNeg) :: rest }) target) : Steps p.tables e below (T.setTop g) target := by
  obtain ⟨cl, A, S, q, H⟩ := F
  exact X.caload hx (by rw [eT]; exact A.1) (State.isArrayOf_alike hZ.alike A.2.1) A.2.2 (inb_of S hj) (H _ (Nat.lt_of_not_le fun y => inb_of S hj (Or.inr y))) hg hs hd _ hr
theorem sC {Z : State} {h : Heap} (X : Stand p l e R s m args below meth c T locs cells slots) (hx : p.tables.exec = Jvm.exec) (hZ : Z.Warmed39 s.vm) (eT : T.heap = h) {a : Addr} {n : Int32} {f : Nat → Int32} (F : IAr Z h a .char n f) {j : Int32} {x : Int32} (hj : ¬ j < 0 ∧ j < n) {g : JFrame} (hg : g.method = m) {rest : List Value} (hs : g.stack = .int x :: .int j :: .ref a :: rest) (hd : decode c.code g.pc = .ok (.castore, 1)) :
    ∃ T' h', Stand p l e R s m args below meth c T' (locs ++ [⟨a, j.toNatClampNeg⟩]) cells slots ∧ T'.heap = h' ∧ Wr h h' a j.toNatClampNeg (.int (nar .char x)) ∧ IAr Z h' a .char n (ownU f j.toNatClampNeg (nar .char x)) ∧ ∀ target, Steps p.tables e below (T'.setTop { g with pc := g.pc + 1, stack := rest }) target → Steps p.tables e below (T.setTop g) target := by
  have F' := F
  obtain ⟨cl, A, S, q, H⟩ := F
  obtain ⟨T', h', X', e', W', st'⟩ := stC X hx hZ eT A (inb_of S hj) hg hs hd
  exact ⟨T', h', X', e', W', F'.set W', st'⟩
theorem alen {Z : State} {h : Heap} (X : Stand p l e R s m args below meth c T locs cells slots) (hx : p.tables.exec = Jvm.exec) (hZ : Z.Warmed39 s.vm) (eT : T.heap = h) {a : Addr} {ty : FieldType} {n : Int32} {f : Nat → Int32} (F : IAr Z h a ty n f) {g : JFrame} (hg : g.method = m) {rest : List Value} (hs : g.stack = .ref a :: rest) (hd : decode c.code g.pc = .ok (.arraylength, 1)) {target : State}
    (hr : Steps p.tables e below (T.setTop { g with pc := g.pc + 1, stack := .int n :: rest }) target) : Steps p.tables e below (T.setTop g) target := by
  obtain ⟨cl, A, S, q, H⟩ := F
  refine X.arraylength hx (by rw [eT]; exact A.1) (State.isArrayOf_alike hZ.alike A.2.1) hg hs hd _ ?_
  rw [len_of S q]
  exact hr
theorem ldR {Z : State} {h : Heap} (X : Stand p l e R s m args below meth c T locs cells slots) (hx : p.tables.exec = Jvm.exec) (hZ : Z.Warmed39 s.vm) (eT : T.heap = h) {a : Addr} {ty : FieldType} {n : Int32} {f : Nat → Addr} (F : RAr Z h a ty n f) (hty : ty.isReference = true) {j : Int32} (hj : ¬ j < 0 ∧ j < n) {g : JFrame} (hg : g.method = m) {rest : List Value} (hs : g.stack = .int j :: .ref a :: rest) (hd : decode c.code g.pc = .ok (.aaload, 1)) {target : State}
    (hr : Steps p.tables e below (T.setTop { g with pc := g.pc + 1, stack := .ref (f j.toNatClampNeg) :: rest }) target) : Steps p.tables e below (T.setTop g) target := by
  obtain ⟨cl, A, S, q, H⟩ := F
  exact X.aaload hx (by rw [eT]; exact A.1) (State.isArrayOf_alike hZ.alike A.2.1) hty A.2.2 (inb_of S hj) (H _ (Nat.lt_of_not_le fun y => inb_of S hj (Or.inr y))) hg hs hd _ hr
end New
end Jvm.RoadKit
namespace Jvm.Pilot.@@N@@
open Jvm Jvm.ClassFile Sem Op Lib Jvm.Free Jvm.Stand Jvm.LawKit Jvm.RoadKit Bundle Jvm.Pilot.@@N@@.Jvm.D
theorem own_eqint {t : Term} {n : Int32} {args : Array Value} {s : State} {idx : List Nat} (h : (Cond.eq t (.int n)).value args s none s idx = some true) : t.eval args s none idx s = some (.int n) := by
  have hn : (Term.int n).eval args s none idx s = some (.int n) := rfl
  simp only [Cond.value] at h
  rw [hn] at h
  cases hv : t.eval args s none idx s with
  | none => simp [hv] at h
  | some v =>
    cases v with
    | int x => simp [hv] at h; rw [h]
    | _ => simp [hv] at h
theorem own_rem (x y : Int32) : x - (x / y) * y = x % y := by
  apply Int32.toInt_inj.mp
  have h1 := Int32.le_toInt (x % y)
  have h2 := Int32.toInt_lt (x % y)
  rw [Int32.toInt_sub, Int32.toInt_mul, Int32.toInt_div, Int.bmod_mul_bmod, Int.sub_bmod_bmod, Int.mul_comm (x.toInt.tdiv y.toInt), ← Int.tmod_def, ← Int32.toInt_mod]
  exact Int.bmod_eq_of_le_mul_two (by omega) (by omega)
theorem own_nat (x : Int32) : (x.toBitVec.toNat : Int) = x.toInt % 4294967296 := by
  have h := x.toBitVec.isLt
  show _ = x.toBitVec.toInt % 4294967296
  rw [BitVec.toInt_eq_toNat_cond]; split <;> omega
theorem own_mask (x m : Int32) (k : Nat) (hm : m.toBitVec.toNat = 2 ^ k - 1) : (x &&& m).toBitVec.toNat = x.toBitVec.toNat % 2 ^ k := by
  show (x.toBitVec &&& m.toBitVec).toNat = _
  rw [BitVec.toNat_and, hm, Nat.and_two_pow_sub_one_eq_mod]
theorem own_cat {x : Value} (h : x.isRef = true) : x.category = 1 := by
  cases x <;> simp [Value.isRef, Value.category] at h ⊢
theorem own_e12 : (12 : Int32).toInt = 12 := rfl
theorem own_e0 : (0 : Int32).toInt = 0 := rfl
theorem own_e1 : (1 : Int32).toInt = 1 := rfl
theorem own_sh1 {p : Int32} (h0 : 0 ≤ p.toInt) (h1 : p.toInt < 12) : (p <<< ((1 : Int32) &&& 31)).toInt = 2 * p.toInt := by
  have a := c_ishl p 1 1 rfl
  have r := rng32 (p <<< ((1 : Int32) &&& 31))
  omega
theorem own_sh2 {p : Int32} (h0 : 0 ≤ p.toInt) (h1 : p.toInt < 12) : ((p <<< ((1 : Int32) &&& 31)) + 1).toInt = 2 * p.toInt + 1 := by
  have a := own_sh1 h0 h1
  have b := c_iadd (p <<< ((1 : Int32) &&& 31)) 1
  have r := rng32 ((p <<< ((1 : Int32) &&& 31)) + 1)
  have e := own_e1
  omega
theorem own_g1 {p2 z : Int32} (h : 0 ≤ p2.toInt ∧ p2.toInt < 12 ∧ z = 24) : ¬ (p2 <<< ((1 : Int32) &&& 31)) < 0 ∧ (p2 <<< ((1 : Int32) &&& 31)) < z := by
  obtain ⟨h0, h1, rfl⟩ := h
  have a := own_sh1 h0 h1
  rw [Int32.lt_iff_toInt_lt, Int32.lt_iff_toInt_lt, a, own_e0, show (24 : Int32).toInt = 24 from rfl]
  omega
theorem own_g2 {p2 z : Int32} (h : 0 ≤ p2.toInt ∧ p2.toInt < 12 ∧ z = 24) : ¬ ((p2 <<< ((1 : Int32) &&& 31)) + 1) < 0 ∧ ((p2 <<< ((1 : Int32) &&& 31)) + 1) < z := by
  obtain ⟨h0, h1, rfl⟩ := h
  have a := own_sh2 h0 h1
  rw [Int32.lt_iff_toInt_lt, Int32.lt_iff_toInt_lt, a, own_e0, show (24 : Int32).toInt = 24 from rfl]
  omega
theorem own_inc {i : Int32} (h : i.toInt < 2147483647) : (i + 1).toInt = i.toInt + 1 := by
  have b := c_iadd i 1
  have r := rng32 (i + 1)
  have r0 := rng32 i
  have e := own_e1
  omega
theorem own_t2 {i1 i4 p3 z : Int32} {k : Nat} (h : i1.toInt = i4.toInt ∧ 0 ≤ i4.toInt ∧ i4.toInt ≤ 12 ∧ 12 - i4.toInt < ((k + 1 : Nat) : Int)) (h12 : p3 = 12) (hz : z = 12) (hc : i4 < p3) : ¬ i1 < 0 ∧ i1 < z := by
  subst h12 hz
  rw [Int32.lt_iff_toInt_lt, own_e12] at hc
  rw [Int32.lt_iff_toInt_lt, Int32.lt_iff_toInt_lt, own_e0, own_e12]
  omega
theorem own_t3 {i1 i4 p3 : Int32} {k : Nat} (h : i1.toInt = i4.toInt ∧ 0 ≤ i4.toInt ∧ i4.toInt ≤ 12 ∧ 12 - i4.toInt < ((k + 1 : Nat) : Int)) (h12 : p3 = 12) (hc : i4 < p3) : (i1 + 1).toInt = (i4 + 1).toInt ∧ 0 ≤ (i4 + 1).toInt ∧ (i4 + 1).toInt ≤ 12 ∧ 12 - (i4 + 1).toInt < (k : Int) := by
  subst h12
  rw [Int32.lt_iff_toInt_lt, own_e12] at hc
  rw [own_inc (i := i1) (by omega), own_inc (i := i4) (by omega)]
  omega
theorem own_t4 {p2 : Int32} (h : p2 = 0) : p2.toInt = (0 : Int32).toInt ∧ 0 ≤ (0 : Int32).toInt ∧ (0 : Int32).toInt ≤ 12 ∧ 12 - (0 : Int32).toInt < ((13 : Nat) : Int) := by
  subst h; decide
theorem own_c1 {i1 i3 i5 p5 z : Int32} {k : Nat} (h : i1.toInt = i5.toInt ∧ i3.toInt = i5.toInt ∧ 0 ≤ i5.toInt ∧ i5.toInt ≤ 12 ∧ 12 - i5.toInt < ((k + 1 : Nat) : Int)) (h12 : p5 = 12) (hz : z = 12) (hc : i5 < p5) : ¬ i1 < 0 ∧ i1 < z := by
  subst h12 hz
  rw [Int32.lt_iff_toInt_lt, own_e12] at hc
  rw [Int32.lt_iff_toInt_lt, Int32.lt_iff_toInt_lt, own_e0, own_e12]
  omega
theorem own_c2 {i1 i3 i5 p5 z : Int32} {k : Nat} (h : i1.toInt = i5.toInt ∧ i3.toInt = i5.toInt ∧ 0 ≤ i5.toInt ∧ i5.toInt ≤ 12 ∧ 12 - i5.toInt < ((k + 1 : Nat) : Int)) (h12 : p5 = 12) (hz : z = 12) (hc : i5 < p5) : ¬ i3 < 0 ∧ i3 < z := by
  subst h12 hz
  rw [Int32.lt_iff_toInt_lt, own_e12] at hc
  rw [Int32.lt_iff_toInt_lt, Int32.lt_iff_toInt_lt, own_e0, own_e12]
  omega
theorem own_c3 {i1 i3 i5 p5 : Int32} {k : Nat} (h : i1.toInt = i5.toInt ∧ i3.toInt = i5.toInt ∧ 0 ≤ i5.toInt ∧ i5.toInt ≤ 12 ∧ 12 - i5.toInt < ((k + 1 : Nat) : Int)) (h12 : p5 = 12) (hc : i5 < p5) : (i1 + 1).toInt = (i5 + 1).toInt ∧ (i3 + 1).toInt = (i5 + 1).toInt ∧ 0 ≤ (i5 + 1).toInt ∧ (i5 + 1).toInt ≤ 12 ∧ 12 - (i5 + 1).toInt < (k : Int) := by
  subst h12
  rw [Int32.lt_iff_toInt_lt, own_e12] at hc
  rw [own_inc (i := i1) (by omega), own_inc (i := i3) (by omega), own_inc (i := i5) (by omega)]
  omega
theorem own_c4 {p2 p4 : Int32} (h : p2 = 0) (h' : p4 = 0) : p2.toInt = (0 : Int32).toInt ∧ p4.toInt = (0 : Int32).toInt ∧ 0 ≤ (0 : Int32).toInt ∧ (0 : Int32).toInt ≤ 12 ∧ 12 - (0 : Int32).toInt < ((13 : Nat) : Int) := by
  subst h h'; decide
theorem own_dec {i : Int32} (h : -2147483648 < i.toInt) : (i + -1).toInt = i.toInt - 1 := by
  have b := c_iadd i (-1)
  have r := rng32 (i + -1)
  have r0 := rng32 i
  have e : (-1 : Int32).toInt = -1 := rfl
  omega
theorem own_n2 {i7 : Int32} {k : Nat} (h : -1 ≤ i7.toInt ∧ i7.toInt < 8 ∧ i7.toInt + 1 < ((k + 1 : Nat) : Int)) (hc : ¬ i7 < 0) : -1 ≤ (i7 + -1).toInt ∧ (i7 + -1).toInt < 8 ∧ (i7 + -1).toInt + 1 < (k : Int) := by
  rw [Int32.lt_iff_toInt_lt, own_e0] at hc
  rw [own_dec (by omega)]
  omega
theorem own_p4 {p4 : Int32} (h0 : 0 ≤ p4.toInt) : (p4 - 1).toInt = p4.toInt - 1 := by
  have b := c_isub p4 1
  have r := rng32 (p4 - 1)
  have r0 := rng32 p4
  have e := own_e1
  omega
theorem own_n3 {p3 p4 : Int32} {X : Prop} (h : 0 ≤ p3.toInt ∧ p3.toInt ≤ 3 ∧ 0 ≤ p4.toInt ∧ p4.toInt ≤ 8 ∧ X) : -1 ≤ (p4 - 1).toInt ∧ (p4 - 1).toInt < 8 ∧ (p4 - 1).toInt + 1 < ((10 : Nat) : Int) := by
  rw [own_p4 h.2.2.1]; omega
theorem own_pi {p3 i : Int32} (h0 : 0 ≤ p3.toInt) (h1 : p3.toInt ≤ 3) (h2 : 0 ≤ i.toInt) (h3 : i.toInt < 8) : (p3 + i).toInt = p3.toInt + i.toInt := by
  have b := c_iadd p3 i
  have r := rng32 (p3 + i)
  omega
theorem own_n1 {p3 p4 i7 : Int32} {X : Prop} {k : Nat} (hI : -1 ≤ i7.toInt ∧ i7.toInt < 8 ∧ i7.toInt + 1 < ((k + 1 : Nat) : Int)) (h : 0 ≤ p3.toInt ∧ p3.toInt ≤ 3 ∧ 0 ≤ p4.toInt ∧ p4.toInt ≤ 8 ∧ X) (hc : ¬ i7 < 0) : 0 ≤ (p3 + i7).toInt ∧ (p3 + i7).toInt < 12 ∧ X := by
  rw [Int32.lt_iff_toInt_lt, own_e0] at hc
  have a := own_pi (i := i7) h.1 h.2.1 (by omega) hI.2.1
  exact ⟨by omega, by omega, h.2.2.2.2⟩
theorem own_b1 {p3 p4 i6 z : Int32} {k : Nat} (hI : -1 ≤ i6.toInt ∧ i6.toInt < 8 ∧ i6.toInt + 1 < ((k + 1 : Nat) : Int)) (h : 0 ≤ p3.toInt ∧ p3.toInt ≤ 3 ∧ 0 ≤ p4.toInt ∧ p4.toInt ≤ 8 ∧ z = 12) (hc : ¬ i6 < 0) : ¬ (p3 + i6) < 0 ∧ (p3 + i6) < z := by
  have a := own_n1 hI h hc
  obtain ⟨a1, a2, rfl⟩ := a
  rw [Int32.lt_iff_toInt_lt, Int32.lt_iff_toInt_lt, own_e0, own_e12]
  omega
theorem own_cl32 {x : Int32} {n : Nat} (h : x.toInt = n) : x.toNatClampNeg = n := by
  show x.toInt.toNat = n
  rw [h]; rfl

theorem pn_0 : plainName "java/lang/StringUTF16" = true := by first | (simp [plainName, overriddenIn]; done) | decide +kernel
theorem d20_0 : decode jdk_52_method_6_code 0 = .ok (.aload_n 0, 1) := by decide +kernel
theorem d20_1 : decode jdk_52_method_6_code 1 = .ok (.arraylength, 1) := by decide +kernel
theorem d20_2 : decode jdk_52_method_6_code 2 = .ok (.iconst 1, 1) := by decide +kernel
theorem d20_3 : decode jdk_52_method_6_code 3 = .ok (.ishr, 1) := by decide +kernel
theorem d20_4 : decode jdk_52_method_6_code 4 = .ok (.ireturn, 1) := by decide +kernel
theorem ef_20 (m : MethodId) (x0 : Addr) : entryFrame m #[(.ref x0)] 1 = mkF m 0 #[.val (.ref x0)] [] := by first | (simp [entryFrame, mkF, argsToLocals, Value.category]; done) | rfl
def f20 (z_a1 : Int32) (c_a1 : Nat → Int32) : Int32 := (z_a1 >>> ((1 : Int32) &&& 31))
def Q20 (Z : State) (a1 : Addr) (z_a1 : Int32) (c_a1 : Nat → Int32) (h0 : Heap) (n0 : Nat) (v : Option Value) (h : Heap) (L : List Loc) : Prop := v = some (.int (f20 z_a1 c_a1)) ∧ Fr n0 L ∧ h = h0
set_option maxRecDepth 65536 in
set_option maxHeartbeats 40000000 in
theorem rm20 (l : Launch) (Z : State) (a0 : Array Value) (hw : ∀ d ∈ tables_1, d.before a0 Z = true) (ws : List Jvm.Cond) (a1 : Addr) (z_a1 : Int32) (c_a1 : Nat → Int32) (h0 : Heap) (n0 : Nat) (Z0 : n0 ≤ h0.size) (V_a1 : IAr Z h0 a1 .byte z_a1 c_a1) :
    MetFree l (⟨"java/lang/StringUTF16", "length", "([B)I"⟩ : MethodName) (head1 (Jvm.Cond.code (⟨"java/lang/StringUTF16", "length", "([B)I"⟩ : MethodName) jdk_52_method_6_code 1 (some .int) :: ws) ({ frames := 0, cells := 0, slots := 0, locals := 0 } : Room)) (fun a U => a = #[(.ref a1)] ∧ Z.Warmed39 U.vm ∧ U.heap = h0) (fun _ _ _ _ _ => True) (fun _ U o U' => ∃ v L, o = .returned v ∧ Q20 Z a1 z_a1 c_a1 h0 n0 v U'.heap L ∧ FrameEnd U o U' L ({ frames := 0, cells := 0, slots := 0, locals := 0 } : Room).cells ({ frames := 0, cells := 0, slots := 0, locals := 0 } : Room).slots) := by
  refine MetFree.of_bodySF (plainFor_of_name pn_0) hisR ?_
  intro p e s m args below meth c s₁ Bd hml0 hP hK
  obtain ⟨rfl, hZ, hh⟩ := hP
  have hx := Bd.exec
  have hby := Bd.bytes
  have hml : c.maxLocals = 1 := hml0
  have hown : s.vm.findClass "java/lang/StringUTF16" = some m.cls := findClass_of_methodNamed Bd.named
  have hnm := (name_of_methodNamed Bd.named Bd.method).1
  have X0 : Stand p l e ({ frames := 0, cells := 0, slots := 0, locals := 0 } : Room) s m #[(.ref a1)] below meth c s₁ [] 0 0 := Stand.of_body Bd
  have e0 : s₁.heap = h0 := by rw [← hh, Bd.state]; rfl
  have N0 := Fr.nil n0
  have pre0 : ∀ t, Steps p.tables e below (s₁.setTop (mkF m 0 #[.val (.ref a1)] [])) t → Steps p.tables e below (s₁.setTop (entryFrame m #[(.ref a1)] 1)) t := fun t k => castTop (ef_20 m a1) k
  have eq1 : (f20 z_a1 c_a1) = (z_a1 >>> ((1 : Int32) &&& 31)) := rfl
  obtain ⟨fs, hr, hrun, hended, hW, hsame⟩ := X0.leave (v := some (.int (z_a1 >>> ((1 : Int32) &&& 31)))) (fun h => by rw [Bd.returns] at h; cases h)
  refine ⟨_, _, pre0 _ ?_, hrun, hended, _, _, rfl, ?_, ⟨_, rfl⟩, hW, hsame.mono (by decide) (by decide)⟩
  · show Steps p.tables e below (s₁.setTop (mkF m 0 #[.val (.ref a1)] [])) _
    refine XS.aloadN X0.here hx rfl (hb hby d20_0) rfl rfl ?_
    show Steps p.tables e below (s₁.setTop (mkF m 1 #[.val (.ref a1)] [(.ref a1)])) _
    refine alen X0 hx hZ e0 V_a1 (g := (mkF m 1 #[.val (.ref a1)] [(.ref a1)])) rfl rfl (hb hby d20_1) ?_
    show Steps p.tables e below (s₁.setTop (mkF m 2 #[.val (.ref a1)] [(.int z_a1)])) _
    refine XS.iconst X0.here hx rfl (hb hby d20_2) ?_
    show Steps p.tables e below (s₁.setTop (mkF m 3 #[.val (.ref a1)] [(.int (1 : Int32)), (.int z_a1)])) _
    refine XS.ishr X0.here hx rfl (hb hby d20_3) rfl ?_
    show Steps p.tables e below (s₁.setTop (mkF m 4 #[.val (.ref a1)] [(.int (z_a1 >>> ((1 : Int32) &&& 31)))])) _
    exact retI X0 hx Bd.returns (hb hby d20_4) hr
  · show Q20 Z a1 z_a1 c_a1 h0 n0 _ s₁.heap _
    rw [e0]
    exact ⟨by rw [eq1], N0, rfl⟩
theorem d15_0 : decode jdk_52_method_3_code 0 = .ok (.iload_n 0, 1) := by decide +kernel
theorem d15_1 : decode jdk_52_method_3_code 1 = .ok (.ifCond .ge 11, 3) := by decide +kernel
theorem d15_12 : decode jdk_52_method_3_code 12 = .ok (.iload_n 0, 1) := by decide +kernel
theorem d15_13 : decode jdk_52_method_3_code 13 = .ok (.ldc 20, 2) := by decide +kernel
theorem d15_15 : decode jdk_52_method_3_code 15 = .ok (.if_icmp .lt 40, 3) := by decide +kernel
theorem d15_55 : decode jdk_52_method_3_code 55 = .ok (.iload_n 0, 1) := by decide +kernel
theorem d15_56 : decode jdk_52_method_3_code 56 = .ok (.iconst 1, 1) := by decide +kernel
theorem d15_57 : decode jdk_52_method_3_code 57 = .ok (.ishl, 1) := by decide +kernel
theorem d15_58 : decode jdk_52_method_3_code 58 = .ok (.ireturn, 1) := by decide +kernel
theorem ef_15 (m : MethodId) (x0 : Int32) : entryFrame m #[(.int x0)] 1 = mkF m 0 #[.val (.int x0)] [] := by first | (simp [entryFrame, mkF, argsToLocals, Value.category]; done) | rfl
def f15 (p1 : Int32) : Int32 := (p1 <<< ((1 : Int32) &&& 31))
def Q15 (Z : State) (p1 : Int32) (h0 : Heap) (n0 : Nat) (v : Option Value) (h : Heap) (L : List Loc) : Prop := v = some (.int (f15 p1)) ∧ Fr n0 L ∧ h = h0
set_option maxRecDepth 65536 in
set_option maxHeartbeats 40000000 in
theorem rm15 (l : Launch) (Z : State) (a0 : Array Value) (hw : ∀ d ∈ tables_1, d.before a0 Z = true) (ws : List Jvm.Cond) (p1 : Int32) (h0 : Heap) (n0 : Nat) (Z0 : n0 ≤ h0.size) (kz12 : p1 = 12) :
    MetFree l (⟨"java/lang/StringUTF16", "newBytesLength", "(I)I"⟩ : MethodName) (head1 (Jvm.Cond.code (⟨"java/lang/StringUTF16", "newBytesLength", "(I)I"⟩ : MethodName) jdk_52_method_3_code 1 (some .int) :: ws) ({ frames := 0, cells := 0, slots := 0, locals := 0 } : Room)) (fun a U => a = #[(.int p1)] ∧ Z.Warmed39 U.vm ∧ U.heap = h0) (fun _ _ _ _ _ => True) (fun _ U o U' => ∃ v L, o = .returned v ∧ Q15 Z p1 h0 n0 v U'.heap L ∧ FrameEnd U o U' L ({ frames := 0, cells := 0, slots := 0, locals := 0 } : Room).cells ({ frames := 0, cells := 0, slots := 0, locals := 0 } : Room).slots) := by
  refine MetFree.of_bodySF (plainFor_of_name pn_0) hisR ?_
  intro p e s m args below meth c s₁ Bd hml0 hP hK
  obtain ⟨rfl, hZ, hh⟩ := hP
  have hx := Bd.exec
  have hby := Bd.bytes
  have hml : c.maxLocals = 1 := hml0
  have hown : s.vm.findClass "java/lang/StringUTF16" = some m.cls := findClass_of_methodNamed Bd.named
  have hnm := (name_of_methodNamed Bd.named Bd.method).1
  have X0 : Stand p l e ({ frames := 0, cells := 0, slots := 0, locals := 0 } : Room) s m #[(.int p1)] below meth c s₁ [] 0 0 := Stand.of_body Bd
  have e0 : s₁.heap = h0 := by rw [← hh, Bd.state]; rfl
  have N0 := Fr.nil n0
  have pre0 : ∀ t, Steps p.tables e below (s₁.setTop (mkF m 0 #[.val (.int p1)] [])) t → Steps p.tables e below (s₁.setTop (entryFrame m #[(.int p1)] 1)) t := fun t k => castTop (ef_15 m p1) k
  have eq1 : (f15 p1) = (p1 <<< ((1 : Int32) &&& 31)) := rfl
  obtain ⟨fs, hr, hrun, hended, hW, hsame⟩ := X0.leave (v := some (.int (p1 <<< ((1 : Int32) &&& 31)))) (fun h => by rw [Bd.returns] at h; cases h)
  refine ⟨_, _, pre0 _ ?_, hrun, hended, _, _, rfl, ?_, ⟨_, rfl⟩, hW, hsame.mono (by decide) (by decide)⟩
  · show Steps p.tables e below (s₁.setTop (mkF m 0 #[.val (.int p1)] [])) _
    refine XS.iloadN X0.here hx rfl (hb hby d15_0) rfl ?_
    show Steps p.tables e below (s₁.setTop (mkF m 1 #[.val (.int p1)] [(.int p1)])) _
    refine XS.ifYes X0.here hx rfl (pc0 := 1) (pc' := 12) rfl (hb hby d15_1) rfl ((if0 _ _).trans (flt (by rw [kz12]; decide : ¬ (p1 < (0 : Int32)))).2.1) (by decide) (by decide) ?_
    show Steps p.tables e below (s₁.setTop (mkF m 12 #[.val (.int p1)] [])) _
    refine XS.iloadN X0.here hx rfl (hb hby d15_12) rfl ?_
    show Steps p.tables e below (s₁.setTop (mkF m 13 #[.val (.int p1)] [(.int p1)])) _
    refine X0.ldcInt hx hown (mvT hZ (hw _ (List.mem_of_getElem? (i := 71) rfl))) (g := (mkF m 13 #[.val (.int p1)] [(.int p1)])) rfl (hb hby d15_13) _ ?_
    show Steps p.tables e below (s₁.setTop (mkF m 15 #[.val (.int p1)] [(.int (1073741823 : Int32)), (.int p1)])) _
    refine XS.icmpYes X0.here hx rfl (pc0 := 15) (pc' := 55) rfl (hb hby d15_15) rfl (tlt (by rw [kz12]; decide : p1 < (1073741823 : Int32))).1 (by decide) (by decide) ?_
    show Steps p.tables e below (s₁.setTop (mkF m 55 #[.val (.int p1)] [])) _
    refine XS.iloadN X0.here hx rfl (hb hby d15_55) rfl ?_
    show Steps p.tables e below (s₁.setTop (mkF m 56 #[.val (.int p1)] [(.int p1)])) _
    refine XS.iconst X0.here hx rfl (hb hby d15_56) ?_
    show Steps p.tables e below (s₁.setTop (mkF m 57 #[.val (.int p1)] [(.int (1 : Int32)), (.int p1)])) _
    refine XS.ishl X0.here hx rfl (hb hby d15_57) rfl ?_
    show Steps p.tables e below (s₁.setTop (mkF m 58 #[.val (.int p1)] [(.int (p1 <<< ((1 : Int32) &&& 31)))])) _
    exact retI X0 hx Bd.returns (hb hby d15_58) hr
  · show Q15 Z p1 h0 n0 _ s₁.heap _
    rw [e0]
    exact ⟨by rw [eq1], N0, rfl⟩
theorem pd_0 : parseMethodDescriptor "(I)I" = some ⟨[.int], some .int⟩ := by decide +kernel
theorem d14_0 : decode jdk_52_method_2_code 0 = .ok (.iload_n 0, 1) := by decide +kernel
theorem d14_1 : decode jdk_52_method_2_code 1 = .ok (.invokestatic 11, 3) := by decide +kernel
theorem d14_4 : decode jdk_52_method_2_code 4 = .ok (.newarray .byte, 2) := by decide +kernel
theorem d14_6 : decode jdk_52_method_2_code 6 = .ok (.areturn, 1) := by decide +kernel
theorem ef_14 (m : MethodId) (x0 : Int32) : entryFrame m #[(.int x0)] 1 = mkF m 0 #[.val (.int x0)] [] := by first | (simp [entryFrame, mkF, argsToLocals, Value.category]; done) | rfl
def f14_x0n (p1 : Int32) : Int32 := (f15 p1)
def f14_x0c (p1 : Int32) : Nat → Int32 := (fun _ => 0)
def Q14 (Z : State) (p1 : Int32) (h0 : Heap) (n0 : Nat) (v : Option Value) (h : Heap) (L : List Loc) : Prop := ∃ (r0 : Addr), v = some (.ref r0) ∧ Fr n0 L ∧ Keep h0 h [] ∧ h0.size ≤ r0 ∧ IAr Z h r0 .byte (f14_x0n p1) (f14_x0c p1)
set_option maxRecDepth 65536 in
set_option maxHeartbeats 40000000 in
theorem rm14 (l : Launch) (Z : State) (a0 : Array Value) (hw : ∀ d ∈ tables_1, d.before a0 Z = true) (ws : List Jvm.Cond) (p1 : Int32) (h0 : Heap) (n0 : Nat) (Z0 : n0 ≤ h0.size) (kz12 : p1 = 12) :
    MetFree l (⟨"java/lang/StringUTF16", "newBytesFor", "(I)[B"⟩ : MethodName) (head1 (Jvm.Cond.code (⟨"java/lang/StringUTF16", "newBytesFor", "(I)[B"⟩ : MethodName) jdk_52_method_2_code 1 (some (.array .byte)) :: ws) ({ frames := 1, cells := 1, slots := 24, locals := 12 } : Room)) (fun a U => a = #[(.int p1)] ∧ Z.Warmed39 U.vm ∧ U.heap = h0) (fun _ _ _ _ _ => True) (fun _ U o U' => ∃ v L, o = .returned v ∧ Q14 Z p1 h0 n0 v U'.heap L ∧ FrameEnd U o U' L ({ frames := 1, cells := 1, slots := 24, locals := 12 } : Room).cells ({ frames := 1, cells := 1, slots := 24, locals := 12 } : Room).slots) := by
  refine MetFree.of_bodySF (plainFor_of_name pn_0) hisR ?_
  intro p e s m args below meth c s₁ Bd hml0 hP hK
  obtain ⟨rfl, hZ, hh⟩ := hP
  have hx := Bd.exec
  have hby := Bd.bytes
  have hml : c.maxLocals = 1 := hml0
  have hown : s.vm.findClass "java/lang/StringUTF16" = some m.cls := findClass_of_methodNamed Bd.named
  have hnm := (name_of_methodNamed Bd.named Bd.method).1
  have X0 : Stand p l e ({ frames := 1, cells := 1, slots := 24, locals := 12 } : Room) s m #[(.int p1)] below meth c s₁ [] 0 0 := Stand.of_body Bd
  have e0 : s₁.heap = h0 := by rw [← hh, Bd.state]; rfl
  have N0 := Fr.nil n0
  have pre0 : ∀ t, Steps p.tables e below (s₁.setTop (mkF m 0 #[.val (.int p1)] [])) t → Steps p.tables e below (s₁.setTop (entryFrame m #[(.int p1)] 1)) t := fun t k => castTop (ef_14 m p1) k
  obtain ⟨_, _, ⟨T2, L2, k2, n2⟩, -, X2, ⟨Lc2, hQ2, l2, y2, z2⟩, st2⟩ := Jvm.LawKit.callS X0 hx (y := (⟨"java/lang/StringUTF16", "newBytesLength", "(I)I"⟩ : MethodName)) hown (mvT hZ (hw _ (List.mem_of_getElem? (i := 68) rfl))) (mvT hZ (hw _ (List.mem_of_getElem? (i := 69) rfl))) (mvT hZ (hw _ (List.mem_of_getElem? (i := 21) rfl))) (mvT hZ (hw _ (List.mem_of_getElem? (i := 70) rfl))) (by decide) (backOf (W := 0) (rm15 l Z a0 hw [] p1 h0 n0 Z0 kz12) hZ (hw _ (List.mem_of_getElem? (i := 70) rfl)) (hw _ (List.mem_of_getElem? (i := 21) rfl)) (by decide) (by decide)) (g := (mkF m 1 #[.val (.int p1)] [(.int p1)])) rfl (by rw [hml]; rfl) (argsL := [(.int p1)]) (rest := []) (lenOf pd_0 rfl) rfl (by show 2 * 0 + _ ≤ _; exact Nat.le_of_eq rfl) (hb hby d14_1) (fun _ _ => ⟨rfl, e0, (by decide : 0 + 0 ≤ _), (by decide : 0 + 0 ≤ _)⟩)
  dsimp only [Pt.U, Pt.locs, Pt.cells, Pt.slots] at X2 l2 y2 z2 st2 hQ2
  subst l2 y2 z2
  obtain ⟨rfl, N2q, e2⟩ := hQ2
  have N2 := Fr.app N0 N2q
  obtain ⟨T3, h3, k3, X3, e3, E3, A3, st3⟩ := newP X2 hx hZ (hw _ (List.mem_of_getElem? (i := 2) rfl)) e2 (g := (mkF m 4 #[.val (.int p1)] [(.int (f15 p1))])) rfl (hb hby d14_4) rfl (by rw [kz12]; decide) (cap := 24) (by rw [kz12]; decide) (by decide) (by decide) (by decide)
  obtain ⟨b3, g3⟩ : ∃ z, z = h0.size := ⟨_, rfl⟩
  rw [← g3] at A3 st3
  have g_b3 : n0 ≤ b3 := Nat.le_trans Z0 (Nat.le_of_eq g3.symm)
  have sz_b3 : h0.size ≤ b3 := Nat.le_trans (Keep.refl h0 []).1 (Nat.le_of_eq g3.symm)
  have c4 : n0 ≤ h3.size := Nat.le_trans Z0 E3.1
  have c5 : Keep h0 h3 [] := (Keep.refl h0 []).ext E3
  have c6 : IAr Z h3 b3 .byte (f15 p1) (fun _ => 0) := IAr.new A3 (by rw [kz12]; decide) rfl
  have eq1 : (f14_x0n p1) = (f15 p1) := rfl
  have eq2 : (f14_x0c p1) = (fun _ => 0) := rfl
  obtain ⟨fs, hr, hrun, hended, hW, hsame⟩ := X3.leave (v := some (.ref b3)) (fun h => by rw [Bd.returns] at h; cases h)
  refine ⟨_, _, pre0 _ ?_, hrun, hended, _, _, rfl, ?_, ⟨_, rfl⟩, hW, hsame.mono (by decide) (by decide)⟩
  · show Steps p.tables e below (s₁.setTop (mkF m 0 #[.val (.int p1)] [])) _
    refine XS.iloadN X0.here hx rfl (hb hby d14_0) rfl ?_
    show Steps p.tables e below (s₁.setTop (mkF m 1 #[.val (.int p1)] [(.int p1)])) _
    refine st2 _ ?_
    show Steps p.tables e below (T2.setTop (mkF m 4 #[.val (.int p1)] [(.int (f15 p1))])) _
    refine st3 _ ?_
    show Steps p.tables e below (T3.setTop (mkF m 6 #[.val (.int p1)] [(.ref b3)])) _
    jvm_step X3.here [X3.here.top, hx, (hb hby d14_6), X3.method', Bd.returns, Value.isRef, FieldType.isReference]
    first | (intro acts; rw [hr _ acts rfl rfl rfl]) | rw [hr _ _ rfl rfl rfl]
    exact Steps.refl _
  · show Q14 Z p1 h0 n0 _ T3.heap _
    rw [e3]
    exact ⟨b3, rfl, N2, c5, sz_b3, (by rw [eq1, eq2]; exact c6)⟩
theorem d16_0 : decode jdk_52_method_4_code 0 = .ok (.getstatic 44, 3) := by decide +kernel
theorem d16_3 : decode jdk_52_method_4_code 3 = .ok (.ifCond .ne 25, 3) := by decide +kernel
theorem d16_28 : decode jdk_52_method_4_code 28 = .ok (.iload_n 1, 1) := by decide +kernel
theorem d16_29 : decode jdk_52_method_4_code 29 = .ok (.iconst 1, 1) := by decide +kernel
theorem d16_30 : decode jdk_52_method_4_code 30 = .ok (.ishl, 1) := by decide +kernel
theorem d16_31 : decode jdk_52_method_4_code 31 = .ok (.istore_n 1, 1) := by decide +kernel
theorem d16_32 : decode jdk_52_method_4_code 32 = .ok (.aload_n 0, 1) := by decide +kernel
theorem d16_33 : decode jdk_52_method_4_code 33 = .ok (.iload_n 1, 1) := by decide +kernel
theorem d16_34 : decode jdk_52_method_4_code 34 = .ok (.iinc 1 1, 3) := by decide +kernel
theorem d16_37 : decode jdk_52_method_4_code 37 = .ok (.iload_n 2, 1) := by decide +kernel
theorem d16_38 : decode jdk_52_method_4_code 38 = .ok (.getstatic 59, 3) := by decide +kernel
theorem d16_41 : decode jdk_52_method_4_code 41 = .ok (.ishr, 1) := by decide +kernel
theorem d16_42 : decode jdk_52_method_4_code 42 = .ok (.i2b, 1) := by decide +kernel
theorem d16_43 : decode jdk_52_method_4_code 43 = .ok (.bastore, 1) := by decide +kernel
theorem d16_44 : decode jdk_52_method_4_code 44 = .ok (.aload_n 0, 1) := by decide +kernel
theorem d16_45 : decode jdk_52_method_4_code 45 = .ok (.iload_n 1, 1) := by decide +kernel
theorem d16_46 : decode jdk_52_method_4_code 46 = .ok (.iload_n 2, 1) := by decide +kernel
theorem d16_47 : decode jdk_52_method_4_code 47 = .ok (.getstatic 63, 3) := by decide +kernel
theorem d16_50 : decode jdk_52_method_4_code 50 = .ok (.ishr, 1) := by decide +kernel
theorem d16_51 : decode jdk_52_method_4_code 51 = .ok (.i2b, 1) := by decide +kernel
theorem d16_52 : decode jdk_52_method_4_code 52 = .ok (.bastore, 1) := by decide +kernel
theorem d16_53 : decode jdk_52_method_4_code 53 = .ok (.return_, 1) := by decide +kernel
theorem ef_16 (m : MethodId) (x0 : Addr) (x1 : Int32) (x2 : Int32) : entryFrame m #[(.ref x0), (.int x1), (.int x2)] 3 = mkF m 0 #[.val (.ref x0), .val (.int x1), .val (.int x2)] [] := by first | (simp [entryFrame, mkF, argsToLocals, Value.category]; done) | rfl
def f16_v43 (p2 : Int32) (p3 : Int32) (c_a1 : Nat → Int32) : Nat → Int32 := (ownU c_a1 ((p2 <<< ((1 : Int32) &&& 31))).toNatClampNeg (nar .byte ((p3 >>> ((0 : Int32) &&& 31)).toInt8.toInt32)))
def f16_v52 (p2 : Int32) (p3 : Int32) (c_a1 : Nat → Int32) : Nat → Int32 := (ownU (f16_v43 p2 p3 c_a1) (((p2 <<< ((1 : Int32) &&& 31)) + (1 : Int32))).toNatClampNeg (nar .byte ((p3 >>> ((8 : Int32) &&& 31)).toInt8.toInt32)))
def f16_o0 (p2 : Int32) (p3 : Int32) (z_a1 : Int32) (c_a1 : Nat → Int32) : Nat → Int32 := (f16_v52 p2 p3 c_a1)
def Q16 (Z : State) (a1 : Addr) (p2 : Int32) (p3 : Int32) (z_a1 : Int32) (c_a1 : Nat → Int32) (h0 : Heap) (n0 : Nat) (v : Option Value) (h : Heap) (L : List Loc) : Prop := v = none ∧ Fr n0 L ∧ Keep h0 h [a1] ∧ IAr Z h a1 .byte z_a1 (f16_o0 p2 p3 z_a1 c_a1)
set_option maxRecDepth 65536 in
set_option maxHeartbeats 40000000 in
theorem rm16 (l : Launch) (Z : State) (a0 : Array Value) (hw : ∀ d ∈ tables_1, d.before a0 Z = true) (ws : List Jvm.Cond) (a1 : Addr) (p2 : Int32) (p3 : Int32) (z_a1 : Int32) (c_a1 : Nat → Int32) (h0 : Heap) (n0 : Nat) (Z0 : n0 ≤ h0.size) (V_a1 : IAr Z h0 a1 .byte z_a1 c_a1) (g_a1 : n0 ≤ a1) (S__assertionsDisabled : Sta Z h0 "java/lang/StringUTF16" "$assertionsDisabled" "Z" (.int (1 : Int32))) (S_HI_BYTE_SHIFT : Sta Z h0 "java/lang/StringUTF16" "HI_BYTE_SHIFT" "I" (.int (0 : Int32))) (S_LO_BYTE_SHIFT : Sta Z h0 "java/lang/StringUTF16" "LO_BYTE_SHIFT" "I" (.int (8 : Int32))) (hg : 0 ≤ p2.toInt ∧ p2.toInt < 12 ∧ z_a1 = 24) :
    MetFree l (⟨"java/lang/StringUTF16", "putChar", "([BII)V"⟩ : MethodName) (head1 (Jvm.Cond.code (⟨"java/lang/StringUTF16", "putChar", "([BII)V"⟩ : MethodName) jdk_52_method_4_code 3 none :: ws) ({ frames := 0, cells := 0, slots := 0, locals := 0 } : Room)) (fun a U => a = #[(.ref a1), (.int p2), (.int p3)] ∧ Z.Warmed39 U.vm ∧ U.heap = h0) (fun _ _ _ _ _ => True) (fun _ U o U' => ∃ v L, o = .returned v ∧ Q16 Z a1 p2 p3 z_a1 c_a1 h0 n0 v U'.heap L ∧ FrameEnd U o U' L ({ frames := 0, cells := 0, slots := 0, locals := 0 } : Room).cells ({ frames := 0, cells := 0, slots := 0, locals := 0 } : Room).slots) := by
  refine MetFree.of_bodySF (plainFor_of_name pn_0) hisR ?_
  intro p e s m args below meth c s₁ Bd hml0 hP hK
  obtain ⟨rfl, hZ, hh⟩ := hP
  have hx := Bd.exec
  have hby := Bd.bytes
  have hml : c.maxLocals = 3 := hml0
  have hown : s.vm.findClass "java/lang/StringUTF16" = some m.cls := findClass_of_methodNamed Bd.named
  have hnm := (name_of_methodNamed Bd.named Bd.method).1
  have X0 : Stand p l e ({ frames := 0, cells := 0, slots := 0, locals := 0 } : Room) s m #[(.ref a1), (.int p2), (.int p3)] below meth c s₁ [] 0 0 := Stand.of_body Bd
  have e0 : s₁.heap = h0 := by rw [← hh, Bd.state]; rfl
  have N0 := Fr.nil n0
  have pre0 : ∀ t, Steps p.tables e below (s₁.setTop (mkF m 0 #[.val (.ref a1), .val (.int p2), .val (.int p3)] [])) t → Steps p.tables e below (s₁.setTop (entryFrame m #[(.ref a1), (.int p2), (.int p3)] 3)) t := fun t k => castTop (ef_16 m a1 p2 p3) k
  obtain ⟨T4, X4, e4, st4⟩ := getS2 X0 hx hZ hown (host := "") (Or.inl (hw _ (List.mem_of_getElem? (i := 75) rfl))) Via.refl e0 S__assertionsDisabled (g := (mkF m 0 #[.val (.ref a1), .val (.int p2), .val (.int p3)] [])) rfl (hb hby d16_0)
  obtain ⟨T5, X5, e5, st5⟩ := getS2 X4 hx hZ hown (host := "") (Or.inl (hw _ (List.mem_of_getElem? (i := 76) rfl))) Via.refl e4 S_HI_BYTE_SHIFT (g := (mkF m 38 #[.val (.ref a1), .val (.int ((p2 <<< ((1 : Int32) &&& 31)) + (1 : Int32))), .val (.int p3)] [(.int p3), (.int (p2 <<< ((1 : Int32) &&& 31))), (.ref a1)])) rfl (hb hby d16_38)
  obtain ⟨T6, h6, X6, e6, W6, V6, st6⟩ := sB X5 hx hZ e5 V_a1 (j := (p2 <<< ((1 : Int32) &&& 31))) (own_g1 hg) (g := (mkF m 43 #[.val (.ref a1), .val (.int ((p2 <<< ((1 : Int32) &&& 31)) + (1 : Int32))), .val (.int p3)] [(.int ((p3 >>> ((0 : Int32) &&& 31)).toInt8.toInt32)), (.int (p2 <<< ((1 : Int32) &&& 31))), (.ref a1)])) rfl rfl (hb hby d16_43)
  have N6 := Fr.snoc X6 N0 g_a1
  have c7 : n0 ≤ h6.size := Nat.le_trans Z0 (Keep.of_wr W6).1
  have c8 : IAr Z h6 a1 .byte z_a1 (f16_v43 p2 p3 c_a1) := V6
  have c9 : Sta Z h6 "java/lang/StringUTF16" "$assertionsDisabled" "Z" (.int (1 : Int32)) := S__assertionsDisabled.wr W6
  have c10 : Sta Z h6 "java/lang/StringUTF16" "HI_BYTE_SHIFT" "I" (.int (0 : Int32)) := S_HI_BYTE_SHIFT.wr W6
  have c11 : Sta Z h6 "java/lang/StringUTF16" "LO_BYTE_SHIFT" "I" (.int (8 : Int32)) := S_LO_BYTE_SHIFT.wr W6
  have c12 : Keep h0 h6 [a1] := (Keep.refl h0 [a1]).wr W6 (Or.inl (List.mem_of_getElem? (i := 0) rfl))
  obtain ⟨T13, X13, e13, st13⟩ := getS2 X6 hx hZ hown (host := "") (Or.inl (hw _ (List.mem_of_getElem? (i := 77) rfl))) Via.refl e6 c11 (g := (mkF m 47 #[.val (.ref a1), .val (.int ((p2 <<< ((1 : Int32) &&& 31)) + (1 : Int32))), .val (.int p3)] [(.int p3), (.int ((p2 <<< ((1 : Int32) &&& 31)) + (1 : Int32))), (.ref a1)])) rfl (hb hby d16_47)
  obtain ⟨T14, h14, X14, e14, W14, V14, st14⟩ := sB X13 hx hZ e13 c8 (j := ((p2 <<< ((1 : Int32) &&& 31)) + (1 : Int32))) (own_g2 hg) (g := (mkF m 52 #[.val (.ref a1), .val (.int ((p2 <<< ((1 : Int32) &&& 31)) + (1 : Int32))), .val (.int p3)] [(.int ((p3 >>> ((8 : Int32) &&& 31)).toInt8.toInt32)), (.int ((p2 <<< ((1 : Int32) &&& 31)) + (1 : Int32))), (.ref a1)])) rfl rfl (hb hby d16_52)
  have N14 := Fr.snoc X14 N6 g_a1
  have c15 : n0 ≤ h14.size := Nat.le_trans c7 (Keep.of_wr W14).1
  have c16 : IAr Z h14 a1 .byte z_a1 (f16_v52 p2 p3 c_a1) := V14
  have c17 : Sta Z h14 "java/lang/StringUTF16" "$assertionsDisabled" "Z" (.int (1 : Int32)) := c9.wr W14
  have c18 : Sta Z h14 "java/lang/StringUTF16" "HI_BYTE_SHIFT" "I" (.int (0 : Int32)) := c10.wr W14
  have c19 : Sta Z h14 "java/lang/StringUTF16" "LO_BYTE_SHIFT" "I" (.int (8 : Int32)) := c11.wr W14
  have c20 : Keep h0 h14 [a1] := c12.wr W14 (Or.inl (List.mem_of_getElem? (i := 0) rfl))
  have eq1 : (f16_o0 p2 p3 z_a1 c_a1) = (f16_v52 p2 p3 c_a1) := rfl
  obtain ⟨fs, hr, hrun, hended, hW, hsame⟩ := X14.leave (v := none) (fun _ => rfl)
  refine ⟨_, _, pre0 _ ?_, hrun, hended, _, _, rfl, ?_, ⟨_, rfl⟩, hW, hsame.mono (by decide) (by decide)⟩
  · show Steps p.tables e below (s₁.setTop (mkF m 0 #[.val (.ref a1), .val (.int p2), .val (.int p3)] [])) _
    refine st4 _ ?_
    show Steps p.tables e below (T4.setTop (mkF m 3 #[.val (.ref a1), .val (.int p2), .val (.int p3)] [(.int (1 : Int32))])) _
    refine XS.ifYes X4.here hx rfl (pc0 := 3) (pc' := 28) rfl (hb hby d16_3) rfl ((if0 _ _).trans (feq (by decide : ¬ ((1 : Int32) = (0 : Int32)))).2) (by decide) (by decide) ?_
    show Steps p.tables e below (T4.setTop (mkF m 28 #[.val (.ref a1), .val (.int p2), .val (.int p3)] [])) _
    refine XS.iloadN X4.here hx rfl (hb hby d16_28) rfl ?_
    show Steps p.tables e below (T4.setTop (mkF m 29 #[.val (.ref a1), .val (.int p2), .val (.int p3)] [(.int p2)])) _
    refine XS.iconst X4.here hx rfl (hb hby d16_29) ?_
    show Steps p.tables e below (T4.setTop (mkF m 30 #[.val (.ref a1), .val (.int p2), .val (.int p3)] [(.int (1 : Int32)), (.int p2)])) _
    refine XS.ishl X4.here hx rfl (hb hby d16_30) rfl ?_
    show Steps p.tables e below (T4.setTop (mkF m 31 #[.val (.ref a1), .val (.int p2), .val (.int p3)] [(.int (p2 <<< ((1 : Int32) &&& 31)))])) _
    refine XS.istoreN X4.here hx rfl (hb hby d16_31) rfl (l' := #[.val (.ref a1), .val (.int (p2 <<< ((1 : Int32) &&& 31))), .val (.int p3)]) rfl ?_
    show Steps p.tables e below (T4.setTop (mkF m 32 #[.val (.ref a1), .val (.int (p2 <<< ((1 : Int32) &&& 31))), .val (.int p3)] [])) _
    refine XS.aloadN X4.here hx rfl (hb hby d16_32) rfl rfl ?_
    show Steps p.tables e below (T4.setTop (mkF m 33 #[.val (.ref a1), .val (.int (p2 <<< ((1 : Int32) &&& 31))), .val (.int p3)] [(.ref a1)])) _
    refine XS.iloadN X4.here hx rfl (hb hby d16_33) rfl ?_
    show Steps p.tables e below (T4.setTop (mkF m 34 #[.val (.ref a1), .val (.int (p2 <<< ((1 : Int32) &&& 31))), .val (.int p3)] [(.int (p2 <<< ((1 : Int32) &&& 31))), (.ref a1)])) _
    refine XS.iinc X4.here hx rfl (hb hby d16_34) rfl (l' := #[.val (.ref a1), .val (.int ((p2 <<< ((1 : Int32) &&& 31)) + (1 : Int32))), .val (.int p3)]) rfl ?_
    show Steps p.tables e below (T4.setTop (mkF m 37 #[.val (.ref a1), .val (.int ((p2 <<< ((1 : Int32) &&& 31)) + (1 : Int32))), .val (.int p3)] [(.int (p2 <<< ((1 : Int32) &&& 31))), (.ref a1)])) _
    refine XS.iloadN X4.here hx rfl (hb hby d16_37) rfl ?_
    show Steps p.tables e below (T4.setTop (mkF m 38 #[.val (.ref a1), .val (.int ((p2 <<< ((1 : Int32) &&& 31)) + (1 : Int32))), .val (.int p3)] [(.int p3), (.int (p2 <<< ((1 : Int32) &&& 31))), (.ref a1)])) _
    refine st5 _ ?_
    show Steps p.tables e below (T5.setTop (mkF m 41 #[.val (.ref a1), .val (.int ((p2 <<< ((1 : Int32) &&& 31)) + (1 : Int32))), .val (.int p3)] [(.int (0 : Int32)), (.int p3), (.int (p2 <<< ((1 : Int32) &&& 31))), (.ref a1)])) _
    refine XS.ishr X5.here hx rfl (hb hby d16_41) rfl ?_
    show Steps p.tables e below (T5.setTop (mkF m 42 #[.val (.ref a1), .val (.int ((p2 <<< ((1 : Int32) &&& 31)) + (1 : Int32))), .val (.int p3)] [(.int (p3 >>> ((0 : Int32) &&& 31))), (.int (p2 <<< ((1 : Int32) &&& 31))), (.ref a1)])) _
    refine XS.i2b X5.here hx rfl (hb hby d16_42) rfl ?_
    show Steps p.tables e below (T5.setTop (mkF m 43 #[.val (.ref a1), .val (.int ((p2 <<< ((1 : Int32) &&& 31)) + (1 : Int32))), .val (.int p3)] [(.int ((p3 >>> ((0 : Int32) &&& 31)).toInt8.toInt32)), (.int (p2 <<< ((1 : Int32) &&& 31))), (.ref a1)])) _
    refine st6 _ ?_
    show Steps p.tables e below (T6.setTop (mkF m 44 #[.val (.ref a1), .val (.int ((p2 <<< ((1 : Int32) &&& 31)) + (1 : Int32))), .val (.int p3)] [])) _
    refine XS.aloadN X6.here hx rfl (hb hby d16_44) rfl rfl ?_
    show Steps p.tables e below (T6.setTop (mkF m 45 #[.val (.ref a1), .val (.int ((p2 <<< ((1 : Int32) &&& 31)) + (1 : Int32))), .val (.int p3)] [(.ref a1)])) _
    refine XS.iloadN X6.here hx rfl (hb hby d16_45) rfl ?_
    show Steps p.tables e below (T6.setTop (mkF m 46 #[.val (.ref a1), .val (.int ((p2 <<< ((1 : Int32) &&& 31)) + (1 : Int32))), .val (.int p3)] [(.int ((p2 <<< ((1 : Int32) &&& 31)) + (1 : Int32))), (.ref a1)])) _
    refine XS.iloadN X6.here hx rfl (hb hby d16_46) rfl ?_
    show Steps p.tables e below (T6.setTop (mkF m 47 #[.val (.ref a1), .val (.int ((p2 <<< ((1 : Int32) &&& 31)) + (1 : Int32))), .val (.int p3)] [(.int p3), (.int ((p2 <<< ((1 : Int32) &&& 31)) + (1 : Int32))), (.ref a1)])) _
    refine st13 _ ?_
    show Steps p.tables e below (T13.setTop (mkF m 50 #[.val (.ref a1), .val (.int ((p2 <<< ((1 : Int32) &&& 31)) + (1 : Int32))), .val (.int p3)] [(.int (8 : Int32)), (.int p3), (.int ((p2 <<< ((1 : Int32) &&& 31)) + (1 : Int32))), (.ref a1)])) _
    refine XS.ishr X13.here hx rfl (hb hby d16_50) rfl ?_
    show Steps p.tables e below (T13.setTop (mkF m 51 #[.val (.ref a1), .val (.int ((p2 <<< ((1 : Int32) &&& 31)) + (1 : Int32))), .val (.int p3)] [(.int (p3 >>> ((8 : Int32) &&& 31))), (.int ((p2 <<< ((1 : Int32) &&& 31)) + (1 : Int32))), (.ref a1)])) _
    refine XS.i2b X13.here hx rfl (hb hby d16_51) rfl ?_
    show Steps p.tables e below (T13.setTop (mkF m 52 #[.val (.ref a1), .val (.int ((p2 <<< ((1 : Int32) &&& 31)) + (1 : Int32))), .val (.int p3)] [(.int ((p3 >>> ((8 : Int32) &&& 31)).toInt8.toInt32)), (.int ((p2 <<< ((1 : Int32) &&& 31)) + (1 : Int32))), (.ref a1)])) _
    refine st14 _ ?_
    show Steps p.tables e below (T14.setTop (mkF m 53 #[.val (.ref a1), .val (.int ((p2 <<< ((1 : Int32) &&& 31)) + (1 : Int32))), .val (.int p3)] [])) _
    exact X14.returnOut hx Bd.returns (hb hby d16_53) hr
  · show Q16 Z a1 p2 p3 z_a1 c_a1 h0 n0 _ T14.heap _
    rw [e14]
    exact ⟨rfl, N14, c20, (by rw [eq1]; exact c16)⟩
theorem d17_0 : decode jdk_52_method_5_code 0 = .ok (.getstatic 44, 3) := by decide +kernel
theorem d17_3 : decode jdk_52_method_5_code 3 = .ok (.ifCond .ne 25, 3) := by decide +kernel
theorem d17_28 : decode jdk_52_method_5_code 28 = .ok (.iload_n 1, 1) := by decide +kernel
theorem d17_29 : decode jdk_52_method_5_code 29 = .ok (.iconst 1, 1) := by decide +kernel
theorem d17_30 : decode jdk_52_method_5_code 30 = .ok (.ishl, 1) := by decide +kernel
theorem d17_31 : decode jdk_52_method_5_code 31 = .ok (.istore_n 1, 1) := by decide +kernel
theorem d17_32 : decode jdk_52_method_5_code 32 = .ok (.aload_n 0, 1) := by decide +kernel
theorem d17_33 : decode jdk_52_method_5_code 33 = .ok (.iload_n 1, 1) := by decide +kernel
theorem d17_34 : decode jdk_52_method_5_code 34 = .ok (.iinc 1 1, 3) := by decide +kernel
theorem d17_37 : decode jdk_52_method_5_code 37 = .ok (.baload, 1) := by decide +kernel
theorem d17_38 : decode jdk_52_method_5_code 38 = .ok (.sipush 255, 3) := by decide +kernel
theorem d17_41 : decode jdk_52_method_5_code 41 = .ok (.iand, 1) := by decide +kernel
theorem d17_42 : decode jdk_52_method_5_code 42 = .ok (.getstatic 59, 3) := by decide +kernel
theorem d17_45 : decode jdk_52_method_5_code 45 = .ok (.ishl, 1) := by decide +kernel
theorem d17_46 : decode jdk_52_method_5_code 46 = .ok (.aload_n 0, 1) := by decide +kernel
theorem d17_47 : decode jdk_52_method_5_code 47 = .ok (.iload_n 1, 1) := by decide +kernel
theorem d17_48 : decode jdk_52_method_5_code 48 = .ok (.baload, 1) := by decide +kernel
theorem d17_49 : decode jdk_52_method_5_code 49 = .ok (.sipush 255, 3) := by decide +kernel
theorem d17_52 : decode jdk_52_method_5_code 52 = .ok (.iand, 1) := by decide +kernel
theorem d17_53 : decode jdk_52_method_5_code 53 = .ok (.getstatic 63, 3) := by decide +kernel
theorem d17_56 : decode jdk_52_method_5_code 56 = .ok (.ishl, 1) := by decide +kernel
theorem d17_57 : decode jdk_52_method_5_code 57 = .ok (.ior, 1) := by decide +kernel
theorem d17_58 : decode jdk_52_method_5_code 58 = .ok (.i2c, 1) := by decide +kernel
theorem d17_59 : decode jdk_52_method_5_code 59 = .ok (.ireturn, 1) := by decide +kernel
theorem ef_17 (m : MethodId) (x0 : Addr) (x1 : Int32) : entryFrame m #[(.ref x0), (.int x1)] 2 = mkF m 0 #[.val (.ref x0), .val (.int x1)] [] := by first | (simp [entryFrame, mkF, argsToLocals, Value.category]; done) | rfl
def f17 (p2 : Int32) (z_a1 : Int32) (c_a1 : Nat → Int32) : Int32 := (nar .char (((((c_a1 ((p2 <<< ((1 : Int32) &&& 31))).toNatClampNeg) &&& (255 : Int32)) <<< ((0 : Int32) &&& 31)) ||| (((c_a1 (((p2 <<< ((1 : Int32) &&& 31)) + (1 : Int32))).toNatClampNeg) &&& (255 : Int32)) <<< ((8 : Int32) &&& 31))).toUInt32.toUInt16.toUInt32.toInt32))
def Q17 (Z : State) (a1 : Addr) (p2 : Int32) (z_a1 : Int32) (c_a1 : Nat → Int32) (h0 : Heap) (n0 : Nat) (v : Option Value) (h : Heap) (L : List Loc) : Prop := v = some (.int (f17 p2 z_a1 c_a1)) ∧ Fr n0 L ∧ h = h0
set_option maxRecDepth 65536 in
set_option maxHeartbeats 40000000 in
theorem rm17 (l : Launch) (Z : State) (a0 : Array Value) (hw : ∀ d ∈ tables_1, d.before a0 Z = true) (ws : List Jvm.Cond) (a1 : Addr) (p2 : Int32) (z_a1 : Int32) (c_a1 : Nat → Int32) (h0 : Heap) (n0 : Nat) (Z0 : n0 ≤ h0.size) (V_a1 : IAr Z h0 a1 .byte z_a1 c_a1) (S__assertionsDisabled : Sta Z h0 "java/lang/StringUTF16" "$assertionsDisabled" "Z" (.int (1 : Int32))) (S_HI_BYTE_SHIFT : Sta Z h0 "java/lang/StringUTF16" "HI_BYTE_SHIFT" "I" (.int (0 : Int32))) (S_LO_BYTE_SHIFT : Sta Z h0 "java/lang/StringUTF16" "LO_BYTE_SHIFT" "I" (.int (8 : Int32))) (hg : 0 ≤ p2.toInt ∧ p2.toInt < 12 ∧ z_a1 = 24) :
    MetFree l (⟨"java/lang/StringUTF16", "getChar", "([BI)C"⟩ : MethodName) (head1 (Jvm.Cond.code (⟨"java/lang/StringUTF16", "getChar", "([BI)C"⟩ : MethodName) jdk_52_method_5_code 2 (some .char) :: ws) ({ frames := 0, cells := 0, slots := 0, locals := 0 } : Room)) (fun a U => a = #[(.ref a1), (.int p2)] ∧ Z.Warmed39 U.vm ∧ U.heap = h0) (fun _ _ _ _ _ => True) (fun _ U o U' => ∃ v L, o = .returned v ∧ Q17 Z a1 p2 z_a1 c_a1 h0 n0 v U'.heap L ∧ FrameEnd U o U' L ({ frames := 0, cells := 0, slots := 0, locals := 0 } : Room).cells ({ frames := 0, cells := 0, slots := 0, locals := 0 } : Room).slots) := by
  refine MetFree.of_bodySF (plainFor_of_name pn_0) hisR ?_
  intro p e s m args below meth c s₁ Bd hml0 hP hK
  obtain ⟨rfl, hZ, hh⟩ := hP
  have hx := Bd.exec
  have hby := Bd.bytes
  have hml : c.maxLocals = 2 := hml0
  have hown : s.vm.findClass "java/lang/StringUTF16" = some m.cls := findClass_of_methodNamed Bd.named
  have hnm := (name_of_methodNamed Bd.named Bd.method).1
  have X0 : Stand p l e ({ frames := 0, cells := 0, slots := 0, locals := 0 } : Room) s m #[(.ref a1), (.int p2)] below meth c s₁ [] 0 0 := Stand.of_body Bd
  have e0 : s₁.heap = h0 := by rw [← hh, Bd.state]; rfl
  have N0 := Fr.nil n0
  have pre0 : ∀ t, Steps p.tables e below (s₁.setTop (mkF m 0 #[.val (.ref a1), .val (.int p2)] [])) t → Steps p.tables e below (s₁.setTop (entryFrame m #[(.ref a1), (.int p2)] 2)) t := fun t k => castTop (ef_17 m a1 p2) k
  obtain ⟨T3, X3, e3, st3⟩ := getS2 X0 hx hZ hown (host := "") (Or.inl (hw _ (List.mem_of_getElem? (i := 75) rfl))) Via.refl e0 S__assertionsDisabled (g := (mkF m 0 #[.val (.ref a1), .val (.int p2)] [])) rfl (hb hby d17_0)
  obtain ⟨T4, X4, e4, st4⟩ := getS2 X3 hx hZ hown (host := "") (Or.inl (hw _ (List.mem_of_getElem? (i := 76) rfl))) Via.refl e3 S_HI_BYTE_SHIFT (g := (mkF m 42 #[.val (.ref a1), .val (.int ((p2 <<< ((1 : Int32) &&& 31)) + (1 : Int32)))] [(.int ((c_a1 ((p2 <<< ((1 : Int32) &&& 31))).toNatClampNeg) &&& (255 : Int32)))])) rfl (hb hby d17_42)
  obtain ⟨T5, X5, e5, st5⟩ := getS2 X4 hx hZ hown (host := "") (Or.inl (hw _ (List.mem_of_getElem? (i := 77) rfl))) Via.refl e4 S_LO_BYTE_SHIFT (g := (mkF m 53 #[.val (.ref a1), .val (.int ((p2 <<< ((1 : Int32) &&& 31)) + (1 : Int32)))] [(.int ((c_a1 (((p2 <<< ((1 : Int32) &&& 31)) + (1 : Int32))).toNatClampNeg) &&& (255 : Int32))), (.int (((c_a1 ((p2 <<< ((1 : Int32) &&& 31))).toNatClampNeg) &&& (255 : Int32)) <<< ((0 : Int32) &&& 31)))])) rfl (hb hby d17_53)
  have eq1 : (f17 p2 z_a1 c_a1) = (nar .char (((((c_a1 ((p2 <<< ((1 : Int32) &&& 31))).toNatClampNeg) &&& (255 : Int32)) <<< ((0 : Int32) &&& 31)) ||| (((c_a1 (((p2 <<< ((1 : Int32) &&& 31)) + (1 : Int32))).toNatClampNeg) &&& (255 : Int32)) <<< ((8 : Int32) &&& 31))).toUInt32.toUInt16.toUInt32.toInt32)) := rfl
  obtain ⟨fs, hr, hrun, hended, hW, hsame⟩ := X5.leave (v := some (.int (nar .char (((((c_a1 ((p2 <<< ((1 : Int32) &&& 31))).toNatClampNeg) &&& (255 : Int32)) <<< ((0 : Int32) &&& 31)) ||| (((c_a1 (((p2 <<< ((1 : Int32) &&& 31)) + (1 : Int32))).toNatClampNeg) &&& (255 : Int32)) <<< ((8 : Int32) &&& 31))).toUInt32.toUInt16.toUInt32.toInt32)))) (fun h => by rw [Bd.returns] at h; cases h)
  refine ⟨_, _, pre0 _ ?_, hrun, hended, _, _, rfl, ?_, ⟨_, rfl⟩, hW, hsame.mono (by decide) (by decide)⟩
  · show Steps p.tables e below (s₁.setTop (mkF m 0 #[.val (.ref a1), .val (.int p2)] [])) _
    refine st3 _ ?_
    show Steps p.tables e below (T3.setTop (mkF m 3 #[.val (.ref a1), .val (.int p2)] [(.int (1 : Int32))])) _
    refine XS.ifYes X3.here hx rfl (pc0 := 3) (pc' := 28) rfl (hb hby d17_3) rfl ((if0 _ _).trans (feq (by decide : ¬ ((1 : Int32) = (0 : Int32)))).2) (by decide) (by decide) ?_
    show Steps p.tables e below (T3.setTop (mkF m 28 #[.val (.ref a1), .val (.int p2)] [])) _
    refine XS.iloadN X3.here hx rfl (hb hby d17_28) rfl ?_
    show Steps p.tables e below (T3.setTop (mkF m 29 #[.val (.ref a1), .val (.int p2)] [(.int p2)])) _
    refine XS.iconst X3.here hx rfl (hb hby d17_29) ?_
    show Steps p.tables e below (T3.setTop (mkF m 30 #[.val (.ref a1), .val (.int p2)] [(.int (1 : Int32)), (.int p2)])) _
    refine XS.ishl X3.here hx rfl (hb hby d17_30) rfl ?_
    show Steps p.tables e below (T3.setTop (mkF m 31 #[.val (.ref a1), .val (.int p2)] [(.int (p2 <<< ((1 : Int32) &&& 31)))])) _
    refine XS.istoreN X3.here hx rfl (hb hby d17_31) rfl (l' := #[.val (.ref a1), .val (.int (p2 <<< ((1 : Int32) &&& 31)))]) rfl ?_
    show Steps p.tables e below (T3.setTop (mkF m 32 #[.val (.ref a1), .val (.int (p2 <<< ((1 : Int32) &&& 31)))] [])) _
    refine XS.aloadN X3.here hx rfl (hb hby d17_32) rfl rfl ?_
    show Steps p.tables e below (T3.setTop (mkF m 33 #[.val (.ref a1), .val (.int (p2 <<< ((1 : Int32) &&& 31)))] [(.ref a1)])) _
    refine XS.iloadN X3.here hx rfl (hb hby d17_33) rfl ?_
    show Steps p.tables e below (T3.setTop (mkF m 34 #[.val (.ref a1), .val (.int (p2 <<< ((1 : Int32) &&& 31)))] [(.int (p2 <<< ((1 : Int32) &&& 31))), (.ref a1)])) _
    refine XS.iinc X3.here hx rfl (hb hby d17_34) rfl (l' := #[.val (.ref a1), .val (.int ((p2 <<< ((1 : Int32) &&& 31)) + (1 : Int32)))]) rfl ?_
    show Steps p.tables e below (T3.setTop (mkF m 37 #[.val (.ref a1), .val (.int ((p2 <<< ((1 : Int32) &&& 31)) + (1 : Int32)))] [(.int (p2 <<< ((1 : Int32) &&& 31))), (.ref a1)])) _
    refine ldB X3 hx hZ e3 V_a1 (j := (p2 <<< ((1 : Int32) &&& 31))) (own_g1 hg) (g := (mkF m 37 #[.val (.ref a1), .val (.int ((p2 <<< ((1 : Int32) &&& 31)) + (1 : Int32)))] [(.int (p2 <<< ((1 : Int32) &&& 31))), (.ref a1)])) rfl rfl (hb hby d17_37) ?_
    show Steps p.tables e below (T3.setTop (mkF m 38 #[.val (.ref a1), .val (.int ((p2 <<< ((1 : Int32) &&& 31)) + (1 : Int32)))] [(.int (c_a1 ((p2 <<< ((1 : Int32) &&& 31))).toNatClampNeg))])) _
    refine XS.sipush X3.here hx rfl (hb hby d17_38) ?_
    show Steps p.tables e below (T3.setTop (mkF m 41 #[.val (.ref a1), .val (.int ((p2 <<< ((1 : Int32) &&& 31)) + (1 : Int32)))] [(.int (255 : Int32)), (.int (c_a1 ((p2 <<< ((1 : Int32) &&& 31))).toNatClampNeg))])) _
    refine XS.iand X3.here hx rfl (hb hby d17_41) rfl ?_
    show Steps p.tables e below (T3.setTop (mkF m 42 #[.val (.ref a1), .val (.int ((p2 <<< ((1 : Int32) &&& 31)) + (1 : Int32)))] [(.int ((c_a1 ((p2 <<< ((1 : Int32) &&& 31))).toNatClampNeg) &&& (255 : Int32)))])) _
    refine st4 _ ?_
    show Steps p.tables e below (T4.setTop (mkF m 45 #[.val (.ref a1), .val (.int ((p2 <<< ((1 : Int32) &&& 31)) + (1 : Int32)))] [(.int (0 : Int32)), (.int ((c_a1 ((p2 <<< ((1 : Int32) &&& 31))).toNatClampNeg) &&& (255 : Int32)))])) _
    refine XS.ishl X4.here hx rfl (hb hby d17_45) rfl ?_
    show Steps p.tables e below (T4.setTop (mkF m 46 #[.val (.ref a1), .val (.int ((p2 <<< ((1 : Int32) &&& 31)) + (1 : Int32)))] [(.int (((c_a1 ((p2 <<< ((1 : Int32) &&& 31))).toNatClampNeg) &&& (255 : Int32)) <<< ((0 : Int32) &&& 31)))])) _
    refine XS.aloadN X4.here hx rfl (hb hby d17_46) rfl rfl ?_
    show Steps p.tables e below (T4.setTop (mkF m 47 #[.val (.ref a1), .val (.int ((p2 <<< ((1 : Int32) &&& 31)) + (1 : Int32)))] [(.ref a1), (.int (((c_a1 ((p2 <<< ((1 : Int32) &&& 31))).toNatClampNeg) &&& (255 : Int32)) <<< ((0 : Int32) &&& 31)))])) _
    refine XS.iloadN X4.here hx rfl (hb hby d17_47) rfl ?_
    show Steps p.tables e below (T4.setTop (mkF m 48 #[.val (.ref a1), .val (.int ((p2 <<< ((1 : Int32) &&& 31)) + (1 : Int32)))] [(.int ((p2 <<< ((1 : Int32) &&& 31)) + (1 : Int32))), (.ref a1), (.int (((c_a1 ((p2 <<< ((1 : Int32) &&& 31))).toNatClampNeg) &&& (255 : Int32)) <<< ((0 : Int32) &&& 31)))])) _
    refine ldB X4 hx hZ e4 V_a1 (j := ((p2 <<< ((1 : Int32) &&& 31)) + (1 : Int32))) (own_g2 hg) (g := (mkF m 48 #[.val (.ref a1), .val (.int ((p2 <<< ((1 : Int32) &&& 31)) + (1 : Int32)))] [(.int ((p2 <<< ((1 : Int32) &&& 31)) + (1 : Int32))), (.ref a1), (.int (((c_a1 ((p2 <<< ((1 : Int32) &&& 31))).toNatClampNeg) &&& (255 : Int32)) <<< ((0 : Int32) &&& 31)))])) rfl rfl (hb hby d17_48) ?_
    show Steps p.tables e below (T4.setTop (mkF m 49 #[.val (.ref a1), .val (.int ((p2 <<< ((1 : Int32) &&& 31)) + (1 : Int32)))] [(.int (c_a1 (((p2 <<< ((1 : Int32) &&& 31)) + (1 : Int32))).toNatClampNeg)), (.int (((c_a1 ((p2 <<< ((1 : Int32) &&& 31))).toNatClampNeg) &&& (255 : Int32)) <<< ((0 : Int32) &&& 31)))])) _
    refine XS.sipush X4.here hx rfl (hb hby d17_49) ?_
    show Steps p.tables e below (T4.setTop (mkF m 52 #[.val (.ref a1), .val (.int ((p2 <<< ((1 : Int32) &&& 31)) + (1 : Int32)))] [(.int (255 : Int32)), (.int (c_a1 (((p2 <<< ((1 : Int32) &&& 31)) + (1 : Int32))).toNatClampNeg)), (.int (((c_a1 ((p2 <<< ((1 : Int32) &&& 31))).toNatClampNeg) &&& (255 : Int32)) <<< ((0 : Int32) &&& 31)))])) _
    refine XS.iand X4.here hx rfl (hb hby d17_52) rfl ?_
    show Steps p.tables e below (T4.setTop (mkF m 53 #[.val (.ref a1), .val (.int ((p2 <<< ((1 : Int32) &&& 31)) + (1 : Int32)))] [(.int ((c_a1 (((p2 <<< ((1 : Int32) &&& 31)) + (1 : Int32))).toNatClampNeg) &&& (255 : Int32))), (.int (((c_a1 ((p2 <<< ((1 : Int32) &&& 31))).toNatClampNeg) &&& (255 : Int32)) <<< ((0 : Int32) &&& 31)))])) _
    refine st5 _ ?_
    show Steps p.tables e below (T5.setTop (mkF m 56 #[.val (.ref a1), .val (.int ((p2 <<< ((1 : Int32) &&& 31)) + (1 : Int32)))] [(.int (8 : Int32)), (.int ((c_a1 (((p2 <<< ((1 : Int32) &&& 31)) + (1 : Int32))).toNatClampNeg) &&& (255 : Int32))), (.int (((c_a1 ((p2 <<< ((1 : Int32) &&& 31))).toNatClampNeg) &&& (255 : Int32)) <<< ((0 : Int32) &&& 31)))])) _
    refine XS.ishl X5.here hx rfl (hb hby d17_56) rfl ?_
    show Steps p.tables e below (T5.setTop (mkF m 57 #[.val (.ref a1), .val (.int ((p2 <<< ((1 : Int32) &&& 31)) + (1 : Int32)))] [(.int (((c_a1 (((p2 <<< ((1 : Int32) &&& 31)) + (1 : Int32))).toNatClampNeg) &&& (255 : Int32)) <<< ((8 : Int32) &&& 31))), (.int (((c_a1 ((p2 <<< ((1 : Int32) &&& 31))).toNatClampNeg) &&& (255 : Int32)) <<< ((0 : Int32) &&& 31)))])) _
    refine XS.ior X5.here hx rfl (hb hby d17_57) rfl ?_
    show Steps p.tables e below (T5.setTop (mkF m 58 #[.val (.ref a1), .val (.int ((p2 <<< ((1 : Int32) &&& 31)) + (1 : Int32)))] [(.int ((((c_a1 ((p2 <<< ((1 : Int32) &&& 31))).toNatClampNeg) &&& (255 : Int32)) <<< ((0 : Int32) &&& 31)) ||| (((c_a1 (((p2 <<< ((1 : Int32) &&& 31)) + (1 : Int32))).toNatClampNeg) &&& (255 : Int32)) <<< ((8 : Int32) &&& 31))))])) _
    refine XS.i2c X5.here hx rfl (hb hby d17_58) rfl ?_
    show Steps p.tables e below (T5.setTop (mkF m 59 #[.val (.ref a1), .val (.int ((p2 <<< ((1 : Int32) &&& 31)) + (1 : Int32)))] [(.int (((((c_a1 ((p2 <<< ((1 : Int32) &&& 31))).toNatClampNeg) &&& (255 : Int32)) <<< ((0 : Int32) &&& 31)) ||| (((c_a1 (((p2 <<< ((1 : Int32) &&& 31)) + (1 : Int32))).toNatClampNeg) &&& (255 : Int32)) <<< ((8 : Int32) &&& 31))).toUInt32.toUInt16.toUInt32.toInt32))])) _
    exact retN X5 hx (t := .char) Bd.returns (by simp) (hb hby d17_59) hr
  · show Q17 Z a1 p2 z_a1 c_a1 h0 n0 _ T5.heap _
    rw [e5]
    exact ⟨by rw [eq1], N0, rfl⟩
theorem pd_1 : parseMethodDescriptor "(I)[B" = some ⟨[.int], some (.array .byte)⟩ := by decide +kernel
theorem pd_2 : parseMethodDescriptor "([BII)V" = some ⟨[(.array .byte), .int, .int], none⟩ := by decide +kernel
theorem d13_0 : decode jdk_52_method_14_code 0 = .ok (.iload_n 2, 1) := by decide +kernel
theorem d13_1 : decode jdk_52_method_14_code 1 = .ok (.invokestatic 107, 3) := by decide +kernel
theorem d13_4 : decode jdk_52_method_14_code 4 = .ok (.astore_n 3, 1) := by decide +kernel
theorem d13_5 : decode jdk_52_method_14_code 5 = .ok (.iconst 0, 1) := by decide +kernel
theorem d13_6 : decode jdk_52_method_14_code 6 = .ok (.istore 4, 2) := by decide +kernel
theorem d13_8 : decode jdk_52_method_14_code 8 = .ok (.iload 4, 2) := by decide +kernel
theorem d13_10 : decode jdk_52_method_14_code 10 = .ok (.iload_n 2, 1) := by decide +kernel
theorem d13_11 : decode jdk_52_method_14_code 11 = .ok (.if_icmp .ge 21, 3) := by decide +kernel
theorem d13_14 : decode jdk_52_method_14_code 14 = .ok (.aload_n 3, 1) := by decide +kernel
theorem d13_15 : decode jdk_52_method_14_code 15 = .ok (.iload 4, 2) := by decide +kernel
theorem d13_17 : decode jdk_52_method_14_code 17 = .ok (.aload_n 0, 1) := by decide +kernel
theorem d13_18 : decode jdk_52_method_14_code 18 = .ok (.iload_n 1, 1) := by decide +kernel
theorem d13_19 : decode jdk_52_method_14_code 19 = .ok (.caload, 1) := by decide +kernel
theorem d13_20 : decode jdk_52_method_14_code 20 = .ok (.invokestatic 111, 3) := by decide +kernel
theorem d13_23 : decode jdk_52_method_14_code 23 = .ok (.iinc 1 1, 3) := by decide +kernel
theorem d13_26 : decode jdk_52_method_14_code 26 = .ok (.iinc 4 1, 3) := by decide +kernel
theorem d13_29 : decode jdk_52_method_14_code 29 = .ok (.goto (-21), 3) := by decide +kernel
theorem d13_32 : decode jdk_52_method_14_code 32 = .ok (.aload_n 3, 1) := by decide +kernel
theorem d13_33 : decode jdk_52_method_14_code 33 = .ok (.areturn, 1) := by decide +kernel
theorem ef_13 (m : MethodId) (x0 : Addr) (x1 : Int32) (x2 : Int32) : entryFrame m #[(.ref x0), (.int x1), (.int x2)] 5 = mkF m 0 #[.val (.ref x0), .val (.int x1), .val (.int x2), .unset, .unset] [] := by first | (simp [entryFrame, mkF, argsToLocals, Value.category]; done) | rfl
theorem own_14 : f14_x0n 12 = 24 := by decide
theorem own_t1 {i1 i4 p3 : Int32} {k : Nat} (h : i1.toInt = i4.toInt ∧ 0 ≤ i4.toInt ∧ i4.toInt ≤ 12 ∧ 12 - i4.toInt < ((k + 1 : Nat) : Int)) (h12 : p3 = 12) (hc : i4 < p3) : 0 ≤ i4.toInt ∧ i4.toInt < 12 ∧ f14_x0n p3 = 24 := by
  subst h12
  rw [Int32.lt_iff_toInt_lt, own_e12] at hc
  exact ⟨by omega, by omega, own_14⟩
def g13_8 (p2 : Int32) (p3 : Int32) (z_a1 : Int32) (c_a1 : Nat → Int32) : Nat → Int32 → Int32 → (Nat → Int32) → Int32
  | 0, _, _, _ => 0
  | k + 1, i1, i4, y3 => (if i4 < p3 then (g13_8 p2 p3 z_a1 c_a1 k (i1 + (1 : Int32)) (i4 + (1 : Int32)) (f16_o0 i4 (c_a1 (i1).toNatClampNeg) (f14_x0n p3) y3)) else (f14_x0n p3))
def f13_x0n (p2 : Int32) (p3 : Int32) (z_a1 : Int32) (c_a1 : Nat → Int32) : Int32 := (g13_8 p2 p3 z_a1 c_a1 (13) p2 (0 : Int32) (f14_x0c p3))
def g13_8_1 (p2 : Int32) (p3 : Int32) (z_a1 : Int32) (c_a1 : Nat → Int32) : Nat → Int32 → Int32 → (Nat → Int32) → Nat → Int32
  | 0, _, _, _ => fun _ => 0
  | k + 1, i1, i4, y3 => (if i4 < p3 then (g13_8_1 p2 p3 z_a1 c_a1 k (i1 + (1 : Int32)) (i4 + (1 : Int32)) (f16_o0 i4 (c_a1 (i1).toNatClampNeg) (f14_x0n p3) y3)) else y3)
def f13_x0c (p2 : Int32) (p3 : Int32) (z_a1 : Int32) (c_a1 : Nat → Int32) : Nat → Int32 := (g13_8_1 p2 p3 z_a1 c_a1 (13) p2 (0 : Int32) (f14_x0c p3))
def Q13 (Z : State) (a1 : Addr) (p2 : Int32) (p3 : Int32) (z_a1 : Int32) (c_a1 : Nat → Int32) (h0 : Heap) (n0 : Nat) (v : Option Value) (h : Heap) (L : List Loc) : Prop := ∃ (r0 : Addr), v = some (.ref r0) ∧ Fr n0 L ∧ Keep h0 h [] ∧ h0.size ≤ r0 ∧ IAr Z h r0 .byte (f13_x0n p2 p3 z_a1 c_a1) (f13_x0c p2 p3 z_a1 c_a1)
set_option maxRecDepth 65536 in
set_option maxHeartbeats 40000000 in
theorem rm13 (l : Launch) (Z : State) (a0 : Array Value) (hw : ∀ d ∈ tables_1, d.before a0 Z = true) (ws : List Jvm.Cond) (a1 : Addr) (p2 : Int32) (p3 : Int32) (z_a1 : Int32) (c_a1 : Nat → Int32) (h0 : Heap) (n0 : Nat) (Z0 : n0 ≤ h0.size) (V_a1 : IAr Z h0 a1 .char z_a1 c_a1) (S__assertionsDisabled : Sta Z h0 "java/lang/StringUTF16" "$assertionsDisabled" "Z" (.int (1 : Int32))) (S_HI_BYTE_SHIFT : Sta Z h0 "java/lang/StringUTF16" "HI_BYTE_SHIFT" "I" (.int (0 : Int32))) (S_LO_BYTE_SHIFT : Sta Z h0 "java/lang/StringUTF16" "LO_BYTE_SHIFT" "I" (.int (8 : Int32))) (kz0 : p2 = 0) (kz12 : p3 = 12) (hz : z_a1 = 12) :
    MetFree l (⟨"java/lang/StringUTF16", "toBytes", "([CII)[B"⟩ : MethodName) (head1 (Jvm.Cond.code (⟨"java/lang/StringUTF16", "toBytes", "([CII)[B"⟩ : MethodName) jdk_52_method_14_code 5 (some (.array .byte)) :: ws) ({ frames := 2, cells := 1, slots := 24, locals := 24 } : Room)) (fun a U => a = #[(.ref a1), (.int p2), (.int p3)] ∧ Z.Warmed39 U.vm ∧ U.heap = h0) (fun _ _ _ _ _ => True) (fun _ U o U' => ∃ v L, o = .returned v ∧ Q13 Z a1 p2 p3 z_a1 c_a1 h0 n0 v U'.heap L ∧ FrameEnd U o U' L ({ frames := 2, cells := 1, slots := 24, locals := 24 } : Room).cells ({ frames := 2, cells := 1, slots := 24, locals := 24 } : Room).slots) := by
  refine MetFree.of_bodySF (plainFor_of_name pn_0) hisR ?_
  intro p e s m args below meth c s₁ Bd hml0 hP hK
  obtain ⟨rfl, hZ, hh⟩ := hP
  have hx := Bd.exec
  have hby := Bd.bytes
  have hml : c.maxLocals = 5 := hml0
  have hown : s.vm.findClass "java/lang/StringUTF16" = some m.cls := findClass_of_methodNamed Bd.named
  have hnm := (name_of_methodNamed Bd.named Bd.method).1
  have X0 : Stand p l e ({ frames := 2, cells := 1, slots := 24, locals := 24 } : Room) s m #[(.ref a1), (.int p2), (.int p3)] below meth c s₁ [] 0 0 := Stand.of_body Bd
  have e0 : s₁.heap = h0 := by rw [← hh, Bd.state]; rfl
  have N0 := Fr.nil n0
  have pre0 : ∀ t, Steps p.tables e below (s₁.setTop (mkF m 0 #[.val (.ref a1), .val (.int p2), .val (.int p3), .unset, .unset] [])) t → Steps p.tables e below (s₁.setTop (entryFrame m #[(.ref a1), (.int p2), (.int p3)] 5)) t := fun t k => castTop (ef_13 m a1 p2 p3) k
  obtain ⟨_, _, ⟨T4, L4, k4, n4⟩, -, X4, ⟨Lc4, hQ4, l4, y4, z4⟩, st4⟩ := Jvm.LawKit.callS X0 hx (y := (⟨"java/lang/StringUTF16", "newBytesFor", "(I)[B"⟩ : MethodName)) hown (mvT hZ (hw _ (List.mem_of_getElem? (i := 65) rfl))) (mvT hZ (hw _ (List.mem_of_getElem? (i := 66) rfl))) (mvT hZ (hw _ (List.mem_of_getElem? (i := 21) rfl))) (mvT hZ (hw _ (List.mem_of_getElem? (i := 67) rfl))) (by decide) (backOf (W := 0) (rm14 l Z a0 hw [] p3 h0 n0 Z0 kz12) hZ (hw _ (List.mem_of_getElem? (i := 67) rfl)) (hw _ (List.mem_of_getElem? (i := 21) rfl)) (by decide) (by decide)) (g := (mkF m 1 #[.val (.ref a1), .val (.int p2), .val (.int p3), .unset, .unset] [(.int p3)])) rfl (by rw [hml]; rfl) (argsL := [(.int p3)]) (rest := []) (lenOf pd_1 rfl) rfl (by show 2 * 0 + _ ≤ _; exact Nat.le_of_eq rfl) (hb hby d13_1) (fun _ _ => ⟨rfl, e0, (by decide : 0 + 1 ≤ _), (by decide : 0 + 24 ≤ _)⟩)
  dsimp only [Pt.U, Pt.locs, Pt.cells, Pt.slots] at X4 l4 y4 z4 st4 hQ4
  subst l4 y4 z4
  obtain ⟨r4_0, rfl, N4q, K4, zz4_0, va4_0⟩ := hQ4
  have N4 := Fr.app N0 N4q
  have ne_a1_r4_0 : a1 ≠ r4_0 := Nat.ne_of_lt (Nat.lt_of_lt_of_le V_a1.lt zz4_0)
  have g_r4_0 : n0 ≤ r4_0 := Nat.le_trans Z0 zz4_0
  have sz_r4_0 : h0.size ≤ r4_0 := Nat.le_trans (Keep.refl h0 []).1 zz4_0
  have c5 : n0 ≤ T4.heap.size := Nat.le_trans Z0 K4.1
  have c6 : IAr Z T4.heap a1 .char z_a1 c_a1 := V_a1.keep K4 nin0
  have c7 : Sta Z T4.heap "java/lang/StringUTF16" "$assertionsDisabled" "Z" (.int (1 : Int32)) := own_staK0 S__assertionsDisabled K4
  have c8 : Sta Z T4.heap "java/lang/StringUTF16" "HI_BYTE_SHIFT" "I" (.int (0 : Int32)) := own_staK0 S_HI_BYTE_SHIFT K4
  have c9 : Sta Z T4.heap "java/lang/StringUTF16" "LO_BYTE_SHIFT" "I" (.int (8 : Int32)) := own_staK0 S_LO_BYTE_SHIFT K4
  have c10 : Keep h0 T4.heap [] := (Keep.refl h0 []).trans K4 all0
  have pre1 : ∀ t, Steps p.tables e below (T4.setTop (mkF m 8 #[.val (.ref a1), .val (.int p2), .val (.int p3), .val (.ref r4_0), .val (.int (0 : Int32))] [])) t → Steps p.tables e below (s₁.setTop (entryFrame m #[(.ref a1), (.int p2), (.int p3)] 5)) t := by
    intro t k
    refine pre0 t ?_
    show Steps p.tables e below (s₁.setTop (mkF m 0 #[.val (.ref a1), .val (.int p2), .val (.int p3), .unset, .unset] [])) _
    refine XS.iloadN X0.here hx rfl (hb hby d13_0) rfl ?_
    show Steps p.tables e below (s₁.setTop (mkF m 1 #[.val (.ref a1), .val (.int p2), .val (.int p3), .unset, .unset] [(.int p3)])) _
    refine st4 _ ?_
    show Steps p.tables e below (T4.setTop (mkF m 4 #[.val (.ref a1), .val (.int p2), .val (.int p3), .unset, .unset] [(.ref r4_0)])) _
    refine XS.astoreN X4.here hx rfl (hb hby d13_4) rfl rfl (l' := #[.val (.ref a1), .val (.int p2), .val (.int p3), .val (.ref r4_0), .unset]) rfl ?_
    show Steps p.tables e below (T4.setTop (mkF m 5 #[.val (.ref a1), .val (.int p2), .val (.int p3), .val (.ref r4_0), .unset] [])) _
    refine XS.iconst X4.here hx rfl (hb hby d13_5) ?_
    show Steps p.tables e below (T4.setTop (mkF m 6 #[.val (.ref a1), .val (.int p2), .val (.int p3), .val (.ref r4_0), .unset] [(.int (0 : Int32))])) _
    refine XS.istore X4.here hx rfl (hb hby d13_6) rfl (l' := #[.val (.ref a1), .val (.int p2), .val (.int p3), .val (.ref r4_0), .val (.int (0 : Int32))]) rfl ?_
    exact k
  have loop8 : ∀ (k : Nat) (i1 : Int32) (i4 : Int32) (y3 : Nat → Int32) (T11 : State) (LT11 : List Loc) (h11 : Heap), i1.toInt = i4.toInt ∧ 0 ≤ i4.toInt ∧ i4.toInt ≤ 12 ∧ 12 - i4.toInt < (k : Int) → Stand p l e ({ frames := 2, cells := 1, slots := 24, locals := 24 } : Room) s m #[(.ref a1), (.int p2), (.int p3)] below meth c T11 LT11 1 24 → T11.heap = h11 → Fr n0 LT11 → n0 ≤ h11.size → IAr Z h11 a1 .char z_a1 c_a1 → Sta Z h11 "java/lang/StringUTF16" "$assertionsDisabled" "Z" (.int (1 : Int32)) → Sta Z h11 "java/lang/StringUTF16" "HI_BYTE_SHIFT" "I" (.int (0 : Int32)) → Sta Z h11 "java/lang/StringUTF16" "LO_BYTE_SHIFT" "I" (.int (8 : Int32)) → Keep h0 h11 [] → IAr Z h11 r4_0 .byte (f14_x0n p3) y3 → (g13_8 p2 p3 z_a1 c_a1 k i1 i4 y3) = (f13_x0n p2 p3 z_a1 c_a1) → (g13_8_1 p2 p3 z_a1 c_a1 k i1 i4 y3) = (f13_x0c p2 p3 z_a1 c_a1) → (∀ t, Steps p.tables e below (T11.setTop (mkF m 8 #[.val (.ref a1), .val (.int i1), .val (.int p3), .val (.ref r4_0), .val (.int i4)] [])) t → Steps p.tables e below (s₁.setTop (entryFrame m #[(.ref a1), (.int p2), (.int p3)] 5)) t) → ∃ s₂ o, Steps p.tables e below (s₁.setTop (entryFrame m #[(.ref a1), (.int p2), (.int p3)] 5)) s₂ ∧ s₂.status = .running ∧ Ended s₂ below o ∧ ∃ v L, o = .returned v ∧ Q13 Z a1 p2 p3 z_a1 c_a1 h0 n0 v s₂.heap L ∧ FrameEnd s o s₂ L ({ frames := 2, cells := 1, slots := 24, locals := 24 } : Room).cells ({ frames := 2, cells := 1, slots := 24, locals := 24 } : Room).slots := by
    intro k
    induction k with
    | zero => intro i1 i4 y3 T11 LT11 h11 hI X11 e11 N11 c12 c13 c14 c15 c16 c17 c18 hg0 hg1 preL; exact absurd hI (by omega)
    | succ k ih =>
      intro i1 i4 y3 T11 LT11 h11 hI X11 e11 N11 c12 c13 c14 c15 c16 c17 c18 hg0 hg1 preL
      have pre2 : ∀ t, Steps p.tables e below (T11.setTop (mkF m 11 #[.val (.ref a1), .val (.int i1), .val (.int p3), .val (.ref r4_0), .val (.int i4)] [(.int p3), (.int i4)])) t → Steps p.tables e below (s₁.setTop (entryFrame m #[(.ref a1), (.int p2), (.int p3)] 5)) t := by
        intro t k
        refine preL t ?_
        show Steps p.tables e below (T11.setTop (mkF m 8 #[.val (.ref a1), .val (.int i1), .val (.int p3), .val (.ref r4_0), .val (.int i4)] [])) _
        refine XS.iload X11.here hx rfl (hb hby d13_8) rfl ?_
        show Steps p.tables e below (T11.setTop (mkF m 10 #[.val (.ref a1), .val (.int i1), .val (.int p3), .val (.ref r4_0), .val (.int i4)] [(.int i4)])) _
        refine XS.iloadN X11.here hx rfl (hb hby d13_10) rfl ?_
        exact k
      by_cases hc11 : i4 < p3
      · obtain ⟨_, _, ⟨T19, L19, k19, n19⟩, -, X19, ⟨Lc19, hQ19, l19, y19, z19⟩, st19⟩ := Jvm.LawKit.callS X11 hx (y := (⟨"java/lang/StringUTF16", "putChar", "([BII)V"⟩ : MethodName)) hown (mvT hZ (hw _ (List.mem_of_getElem? (i := 72) rfl))) (mvT hZ (hw _ (List.mem_of_getElem? (i := 73) rfl))) (mvT hZ (hw _ (List.mem_of_getElem? (i := 21) rfl))) (mvT hZ (hw _ (List.mem_of_getElem? (i := 74) rfl))) (by decide) (backOf (W := 0) (rm16 l Z a0 hw [] r4_0 i4 (c_a1 (i1).toNatClampNeg) (f14_x0n p3) y3 h11 n0 c12 c18 g_r4_0 c14 c15 c16 (own_t1 hI kz12 hc11)) hZ (hw _ (List.mem_of_getElem? (i := 74) rfl)) (hw _ (List.mem_of_getElem? (i := 21) rfl)) (by decide) (by decide)) (g := (mkF m 20 #[.val (.ref a1), .val (.int i1), .val (.int p3), .val (.ref r4_0), .val (.int i4)] [(.int (c_a1 (i1).toNatClampNeg)), (.int i4), (.ref r4_0)])) rfl (by rw [hml]; rfl) (argsL := [(.ref r4_0), (.int i4), (.int (c_a1 (i1).toNatClampNeg))]) (rest := []) (lenOf pd_2 rfl) rfl (by show 2 * 0 + _ ≤ _; exact Nat.le_of_eq rfl) (hb hby d13_20) (fun _ _ => ⟨rfl, e11, (by decide : 1 + 0 ≤ _), (by decide : 24 + 0 ≤ _)⟩)
        dsimp only [Pt.U, Pt.locs, Pt.cells, Pt.slots] at X19 l19 y19 z19 st19 hQ19
        subst l19 y19 z19
        obtain ⟨rfl, N19q, K19, o19_0⟩ := hQ19
        have N19 := Fr.app N11 N19q
        have c20 : n0 ≤ T19.heap.size := Nat.le_trans c12 K19.1
        have c21 : IAr Z T19.heap a1 .char z_a1 c_a1 := c13.keep K19 (ninS ne_a1_r4_0 nin0)
        have c22 : Sta Z T19.heap "java/lang/StringUTF16" "$assertionsDisabled" "Z" (.int (1 : Int32)) := own_staK c14 K19 (own_nsS c18.nostat own_ns0)
        have c23 : Sta Z T19.heap "java/lang/StringUTF16" "HI_BYTE_SHIFT" "I" (.int (0 : Int32)) := own_staK c15 K19 (own_nsS c18.nostat own_ns0)
        have c24 : Sta Z T19.heap "java/lang/StringUTF16" "LO_BYTE_SHIFT" "I" (.int (8 : Int32)) := own_staK c16 K19 (own_nsS c18.nostat own_ns0)
        have c25 : Keep h0 T19.heap [] := c17.trans K19 (allS (Or.inr sz_r4_0) all0)
        have c26 : IAr Z T19.heap r4_0 .byte (f14_x0n p3) (f16_o0 i4 (c_a1 (i1).toNatClampNeg) (f14_x0n p3) y3) := o19_0
        have eq3 : (f13_x0n p2 p3 z_a1 c_a1) = (g13_8 p2 p3 z_a1 c_a1 k (i1 + (1 : Int32)) (i4 + (1 : Int32)) (f16_o0 i4 (c_a1 (i1).toNatClampNeg) (f14_x0n p3) y3)) := by rw [← hg0]; simp only [g13_8, if_pos hc11]
        have eq4 : (f13_x0c p2 p3 z_a1 c_a1) = (g13_8_1 p2 p3 z_a1 c_a1 k (i1 + (1 : Int32)) (i4 + (1 : Int32)) (f16_o0 i4 (c_a1 (i1).toNatClampNeg) (f14_x0n p3) y3)) := by rw [← hg1]; simp only [g13_8_1, if_pos hc11]
        have pre5 : ∀ t, Steps p.tables e below (T19.setTop (mkF m 8 #[.val (.ref a1), .val (.int (i1 + (1 : Int32))), .val (.int p3), .val (.ref r4_0), .val (.int (i4 + (1 : Int32)))] [])) t → Steps p.tables e below (s₁.setTop (entryFrame m #[(.ref a1), (.int p2), (.int p3)] 5)) t := by
          intro t k
          refine pre2 t ?_
          show Steps p.tables e below (T11.setTop (mkF m 11 #[.val (.ref a1), .val (.int i1), .val (.int p3), .val (.ref r4_0), .val (.int i4)] [(.int p3), (.int i4)])) _
          refine XS.icmpNo X11.here hx rfl (hb hby d13_11) rfl (tlt hc11).2.1 ?_
          show Steps p.tables e below (T11.setTop (mkF m 14 #[.val (.ref a1), .val (.int i1), .val (.int p3), .val (.ref r4_0), .val (.int i4)] [])) _
          refine XS.aloadN X11.here hx rfl (hb hby d13_14) rfl rfl ?_
          show Steps p.tables e below (T11.setTop (mkF m 15 #[.val (.ref a1), .val (.int i1), .val (.int p3), .val (.ref r4_0), .val (.int i4)] [(.ref r4_0)])) _
          refine XS.iload X11.here hx rfl (hb hby d13_15) rfl ?_
          show Steps p.tables e below (T11.setTop (mkF m 17 #[.val (.ref a1), .val (.int i1), .val (.int p3), .val (.ref r4_0), .val (.int i4)] [(.int i4), (.ref r4_0)])) _
          refine XS.aloadN X11.here hx rfl (hb hby d13_17) rfl rfl ?_
          show Steps p.tables e below (T11.setTop (mkF m 18 #[.val (.ref a1), .val (.int i1), .val (.int p3), .val (.ref r4_0), .val (.int i4)] [(.ref a1), (.int i4), (.ref r4_0)])) _
          refine XS.iloadN X11.here hx rfl (hb hby d13_18) rfl ?_
          show Steps p.tables e below (T11.setTop (mkF m 19 #[.val (.ref a1), .val (.int i1), .val (.int p3), .val (.ref r4_0), .val (.int i4)] [(.int i1), (.ref a1), (.int i4), (.ref r4_0)])) _
          refine ldC X11 hx hZ e11 c13 (j := i1) (own_t2 hI kz12 hz hc11) (g := (mkF m 19 #[.val (.ref a1), .val (.int i1), .val (.int p3), .val (.ref r4_0), .val (.int i4)] [(.int i1), (.ref a1), (.int i4), (.ref r4_0)])) rfl rfl (hb hby d13_19) ?_
          show Steps p.tables e below (T11.setTop (mkF m 20 #[.val (.ref a1), .val (.int i1), .val (.int p3), .val (.ref r4_0), .val (.int i4)] [(.int (c_a1 (i1).toNatClampNeg)), (.int i4), (.ref r4_0)])) _
          refine st19 _ ?_
          show Steps p.tables e below (T19.setTop (mkF m 23 #[.val (.ref a1), .val (.int i1), .val (.int p3), .val (.ref r4_0), .val (.int i4)] [])) _
          refine XS.iinc X19.here hx rfl (hb hby d13_23) rfl (l' := #[.val (.ref a1), .val (.int (i1 + (1 : Int32))), .val (.int p3), .val (.ref r4_0), .val (.int i4)]) rfl ?_
          show Steps p.tables e below (T19.setTop (mkF m 26 #[.val (.ref a1), .val (.int (i1 + (1 : Int32))), .val (.int p3), .val (.ref r4_0), .val (.int i4)] [])) _
          refine XS.iinc X19.here hx rfl (hb hby d13_26) rfl (l' := #[.val (.ref a1), .val (.int (i1 + (1 : Int32))), .val (.int p3), .val (.ref r4_0), .val (.int (i4 + (1 : Int32)))]) rfl ?_
          show Steps p.tables e below (T19.setTop (mkF m 29 #[.val (.ref a1), .val (.int (i1 + (1 : Int32))), .val (.int p3), .val (.ref r4_0), .val (.int (i4 + (1 : Int32)))] [])) _
          refine XS.goto X19.here hx rfl (pc0 := 29) (pc' := 8) rfl (hb hby d13_29) (by decide) (by decide) ?_
          exact k
        exact ih (i1 + (1 : Int32)) (i4 + (1 : Int32)) (f16_o0 i4 (c_a1 (i1).toNatClampNeg) (f14_x0n p3) y3) T19 _ T19.heap (own_t3 hI kz12 hc11) X19 rfl N19 c20 c21 c22 c23 c24 c25 c26  (eq3).symm (eq4).symm pre5
      · have eq6 : (f13_x0n p2 p3 z_a1 c_a1) = (f14_x0n p3) := by rw [← hg0]; simp only [g13_8, if_neg hc11]
        have eq7 : (f13_x0c p2 p3 z_a1 c_a1) = y3 := by rw [← hg1]; simp only [g13_8_1, if_neg hc11]
        obtain ⟨fs, hr, hrun, hended, hW, hsame⟩ := X11.leave (v := some (.ref r4_0)) (fun h => by rw [Bd.returns] at h; cases h)
        refine ⟨_, _, pre2 _ ?_, hrun, hended, _, _, rfl, ?_, ⟨_, rfl⟩, hW, hsame.mono (by decide) (by decide)⟩
        · show Steps p.tables e below (T11.setTop (mkF m 11 #[.val (.ref a1), .val (.int i1), .val (.int p3), .val (.ref r4_0), .val (.int i4)] [(.int p3), (.int i4)])) _
          refine XS.icmpYes X11.here hx rfl (pc0 := 11) (pc' := 32) rfl (hb hby d13_11) rfl (flt hc11).2.1 (by decide) (by decide) ?_
          show Steps p.tables e below (T11.setTop (mkF m 32 #[.val (.ref a1), .val (.int i1), .val (.int p3), .val (.ref r4_0), .val (.int i4)] [])) _
          refine XS.aloadN X11.here hx rfl (hb hby d13_32) rfl rfl ?_
          show Steps p.tables e below (T11.setTop (mkF m 33 #[.val (.ref a1), .val (.int i1), .val (.int p3), .val (.ref r4_0), .val (.int i4)] [(.ref r4_0)])) _
          jvm_step X11.here [X11.here.top, hx, (hb hby d13_33), X11.method', Bd.returns, Value.isRef, FieldType.isReference]
          first | (intro acts; rw [hr _ acts rfl rfl rfl]) | rw [hr _ _ rfl rfl rfl]
          exact Steps.refl _
        · show Q13 Z a1 p2 p3 z_a1 c_a1 h0 n0 _ T11.heap _
          rw [e11]
          exact ⟨r4_0, rfl, N11, c17, sz_r4_0, (by rw [eq6, eq7]; exact c18)⟩
  exact loop8 13 p2 (0 : Int32) (f14_x0c p3) T4 _ T4.heap  (own_t4 kz0) X4 rfl N4 c5 c6 c7 c8 c9 c10 va4_0 (rfl) (rfl) pre1
theorem d5_0 : decode jdk_52_method_21_code 0 = .ok (.iconst 0, 1) := by decide +kernel
theorem d5_1 : decode jdk_52_method_21_code 1 = .ok (.istore 5, 2) := by decide +kernel
theorem d5_3 : decode jdk_52_method_21_code 3 = .ok (.iload 5, 2) := by decide +kernel
theorem d5_5 : decode jdk_52_method_21_code 5 = .ok (.iload 4, 2) := by decide +kernel
theorem d5_7 : decode jdk_52_method_21_code 7 = .ok (.if_icmp .ge 37, 3) := by decide +kernel
theorem d5_10 : decode jdk_52_method_21_code 10 = .ok (.aload_n 0, 1) := by decide +kernel
theorem d5_11 : decode jdk_52_method_21_code 11 = .ok (.iload_n 1, 1) := by decide +kernel
theorem d5_12 : decode jdk_52_method_21_code 12 = .ok (.caload, 1) := by decide +kernel
theorem d5_13 : decode jdk_52_method_21_code 13 = .ok (.istore 6, 2) := by decide +kernel
theorem d5_15 : decode jdk_52_method_21_code 15 = .ok (.iload 6, 2) := by decide +kernel
theorem d5_17 : decode jdk_52_method_21_code 17 = .ok (.sipush 255, 3) := by decide +kernel
theorem d5_20 : decode jdk_52_method_21_code 20 = .ok (.if_icmp .le 6, 3) := by decide +kernel
theorem d5_23 : decode jdk_52_method_21_code 23 = .ok (.iload 5, 2) := by decide +kernel
theorem d5_25 : decode jdk_52_method_21_code 25 = .ok (.ireturn, 1) := by decide +kernel
theorem d5_26 : decode jdk_52_method_21_code 26 = .ok (.aload_n 2, 1) := by decide +kernel
theorem d5_27 : decode jdk_52_method_21_code 27 = .ok (.iload_n 3, 1) := by decide +kernel
theorem d5_28 : decode jdk_52_method_21_code 28 = .ok (.iload 6, 2) := by decide +kernel
theorem d5_30 : decode jdk_52_method_21_code 30 = .ok (.i2b, 1) := by decide +kernel
theorem d5_31 : decode jdk_52_method_21_code 31 = .ok (.bastore, 1) := by decide +kernel
theorem d5_32 : decode jdk_52_method_21_code 32 = .ok (.iinc 1 1, 3) := by decide +kernel
theorem d5_35 : decode jdk_52_method_21_code 35 = .ok (.iinc 3 1, 3) := by decide +kernel
theorem d5_38 : decode jdk_52_method_21_code 38 = .ok (.iinc 5 1, 3) := by decide +kernel
theorem d5_41 : decode jdk_52_method_21_code 41 = .ok (.goto (-38), 3) := by decide +kernel
theorem d5_44 : decode jdk_52_method_21_code 44 = .ok (.iload 4, 2) := by decide +kernel
theorem d5_46 : decode jdk_52_method_21_code 46 = .ok (.ireturn, 1) := by decide +kernel
theorem ef_5 (m : MethodId) (x0 : Addr) (x1 : Int32) (x2 : Addr) (x3 : Int32) (x4 : Int32) : entryFrame m #[(.ref x0), (.int x1), (.ref x2), (.int x3), (.int x4)] 7 = mkF m 0 #[.val (.ref x0), .val (.int x1), .val (.ref x2), .val (.int x3), .val (.int x4), .unset, .unset] [] := by first | (simp [entryFrame, mkF, argsToLocals, Value.category]; done) | rfl
def g5_3 (p2 : Int32) (p4 : Int32) (p5 : Int32) (z_a1 : Int32) (c_a1 : Nat → Int32) (z_a3 : Int32) (c_a3 : Nat → Int32) : Nat → Int32 → Int32 → Int32 → (Nat → Int32) → Int32
  | 0, _, _, _, _ => 0
  | k + 1, i1, i3, i5, y3 => (if i5 < p5 then (if (255 : Int32) < (c_a1 (i1).toNatClampNeg) then i5 else (g5_3 p2 p4 p5 z_a1 c_a1 z_a3 c_a3 k (i1 + (1 : Int32)) (i3 + (1 : Int32)) (i5 + (1 : Int32)) (ownU y3 (i3).toNatClampNeg (nar .byte ((c_a1 (i1).toNatClampNeg).toInt8.toInt32))))) else p5)
def f5 (p2 : Int32) (p4 : Int32) (p5 : Int32) (z_a1 : Int32) (c_a1 : Nat → Int32) (z_a3 : Int32) (c_a3 : Nat → Int32) : Int32 := (g5_3 p2 p4 p5 z_a1 c_a1 z_a3 c_a3 (13) p2 p4 (0 : Int32) c_a3)
def g5_3_1 (p2 : Int32) (p4 : Int32) (p5 : Int32) (z_a1 : Int32) (c_a1 : Nat → Int32) (z_a3 : Int32) (c_a3 : Nat → Int32) : Nat → Int32 → Int32 → Int32 → (Nat → Int32) → Nat → Int32
  | 0, _, _, _, _ => fun _ => 0
  | k + 1, i1, i3, i5, y3 => (if i5 < p5 then (if (255 : Int32) < (c_a1 (i1).toNatClampNeg) then y3 else (g5_3_1 p2 p4 p5 z_a1 c_a1 z_a3 c_a3 k (i1 + (1 : Int32)) (i3 + (1 : Int32)) (i5 + (1 : Int32)) (ownU y3 (i3).toNatClampNeg (nar .byte ((c_a1 (i1).toNatClampNeg).toInt8.toInt32))))) else y3)
def f5_o0 (p2 : Int32) (p4 : Int32) (p5 : Int32) (z_a1 : Int32) (c_a1 : Nat → Int32) (z_a3 : Int32) (c_a3 : Nat → Int32) : Nat → Int32 := (g5_3_1 p2 p4 p5 z_a1 c_a1 z_a3 c_a3 (13) p2 p4 (0 : Int32) c_a3)
def Q5 (Z : State) (a1 : Addr) (p2 : Int32) (a3 : Addr) (p4 : Int32) (p5 : Int32) (z_a1 : Int32) (c_a1 : Nat → Int32) (z_a3 : Int32) (c_a3 : Nat → Int32) (h0 : Heap) (n0 : Nat) (v : Option Value) (h : Heap) (L : List Loc) : Prop := v = some (.int (f5 p2 p4 p5 z_a1 c_a1 z_a3 c_a3)) ∧ Fr n0 L ∧ Keep h0 h [a3] ∧ IAr Z h a3 .byte z_a3 (f5_o0 p2 p4 p5 z_a1 c_a1 z_a3 c_a3)
set_option maxRecDepth 65536 in
set_option maxHeartbeats 40000000 in
theorem rm5 (l : Launch) (Z : State) (a0 : Array Value) (hw : ∀ d ∈ tables_1, d.before a0 Z = true) (ws : List Jvm.Cond) (a1 : Addr) (p2 : Int32) (a3 : Addr) (p4 : Int32) (p5 : Int32) (z_a1 : Int32) (c_a1 : Nat → Int32) (z_a3 : Int32) (c_a3 : Nat → Int32) (h0 : Heap) (n0 : Nat) (Z0 : n0 ≤ h0.size) (V_a1 : IAr Z h0 a1 .char z_a1 c_a1) (V_a3 : IAr Z h0 a3 .byte z_a3 c_a3) (g_a3 : n0 ≤ a3) (ne_a1_a3 : a1 ≠ a3) (kz0 : p2 = 0) (kz4 : p4 = 0) (kz12 : p5 = 12) (hz : z_a1 = 12) (hz3 : z_a3 = 12) :
    MetFree l (⟨"java/lang/StringUTF16", "compress", "([CI[BII)I"⟩ : MethodName) (head1 (Jvm.Cond.code (⟨"java/lang/StringUTF16", "compress", "([CI[BII)I"⟩ : MethodName) jdk_52_method_21_code 7 (some .int) :: ws) ({ frames := 0, cells := 0, slots := 0, locals := 0 } : Room)) (fun a U => a = #[(.ref a1), (.int p2), (.ref a3), (.int p4), (.int p5)] ∧ Z.Warmed39 U.vm ∧ U.heap = h0) (fun _ _ _ _ _ => True) (fun _ U o U' => ∃ v L, o = .returned v ∧ Q5 Z a1 p2 a3 p4 p5 z_a1 c_a1 z_a3 c_a3 h0 n0 v U'.heap L ∧ FrameEnd U o U' L ({ frames := 0, cells := 0, slots := 0, locals := 0 } : Room).cells ({ frames := 0, cells := 0, slots := 0, locals := 0 } : Room).slots) := by
  refine MetFree.of_bodySF (plainFor_of_name pn_0) hisR ?_
  intro p e s m args below meth c s₁ Bd hml0 hP hK
  obtain ⟨rfl, hZ, hh⟩ := hP
  have hx := Bd.exec
  have hby := Bd.bytes
  have hml : c.maxLocals = 7 := hml0
  have hown : s.vm.findClass "java/lang/StringUTF16" = some m.cls := findClass_of_methodNamed Bd.named
  have hnm := (name_of_methodNamed Bd.named Bd.method).1
  have X0 : Stand p l e ({ frames := 0, cells := 0, slots := 0, locals := 0 } : Room) s m #[(.ref a1), (.int p2), (.ref a3), (.int p4), (.int p5)] below meth c s₁ [] 0 0 := Stand.of_body Bd
  have e0 : s₁.heap = h0 := by rw [← hh, Bd.state]; rfl
  have N0 := Fr.nil n0
  have pre0 : ∀ t, Steps p.tables e below (s₁.setTop (mkF m 0 #[.val (.ref a1), .val (.int p2), .val (.ref a3), .val (.int p4), .val (.int p5), .unset, .unset] [])) t → Steps p.tables e below (s₁.setTop (entryFrame m #[(.ref a1), (.int p2), (.ref a3), (.int p4), (.int p5)] 7)) t := fun t k => castTop (ef_5 m a1 p2 a3 p4 p5) k
  have pre1 : ∀ t, Steps p.tables e below (s₁.setTop (mkF m 3 #[.val (.ref a1), .val (.int p2), .val (.ref a3), .val (.int p4), .val (.int p5), .val (.int (0 : Int32)), .unset] [])) t → Steps p.tables e below (s₁.setTop (entryFrame m #[(.ref a1), (.int p2), (.ref a3), (.int p4), (.int p5)] 7)) t := by
    intro t k
    refine pre0 t ?_
    show Steps p.tables e below (s₁.setTop (mkF m 0 #[.val (.ref a1), .val (.int p2), .val (.ref a3), .val (.int p4), .val (.int p5), .unset, .unset] [])) _
    refine XS.iconst X0.here hx rfl (hb hby d5_0) ?_
    show Steps p.tables e below (s₁.setTop (mkF m 1 #[.val (.ref a1), .val (.int p2), .val (.ref a3), .val (.int p4), .val (.int p5), .unset, .unset] [(.int (0 : Int32))])) _
    refine XS.istore X0.here hx rfl (hb hby d5_1) rfl (l' := #[.val (.ref a1), .val (.int p2), .val (.ref a3), .val (.int p4), .val (.int p5), .val (.int (0 : Int32)), .unset]) rfl ?_
    exact k
  have loop3 : ∀ (k : Nat) (i1 : Int32) (i3 : Int32) (i5 : Int32) (s6 : Slot) (y3 : Nat → Int32) (T6 : State) (LT6 : List Loc) (h6 : Heap), One s6 → i1.toInt = i5.toInt ∧ i3.toInt = i5.toInt ∧ 0 ≤ i5.toInt ∧ i5.toInt ≤ 12 ∧ 12 - i5.toInt < (k : Int) → Stand p l e ({ frames := 0, cells := 0, slots := 0, locals := 0 } : Room) s m #[(.ref a1), (.int p2), (.ref a3), (.int p4), (.int p5)] below meth c T6 LT6 0 0 → T6.heap = h6 → Fr n0 LT6 → n0 ≤ h6.size → IAr Z h6 a1 .char z_a1 c_a1 → IAr Z h6 a3 .byte z_a3 y3 → Keep h0 h6 [a3] → (g5_3 p2 p4 p5 z_a1 c_a1 z_a3 c_a3 k i1 i3 i5 y3) = (f5 p2 p4 p5 z_a1 c_a1 z_a3 c_a3) → (g5_3_1 p2 p4 p5 z_a1 c_a1 z_a3 c_a3 k i1 i3 i5 y3) = (f5_o0 p2 p4 p5 z_a1 c_a1 z_a3 c_a3) → (∀ t, Steps p.tables e below (T6.setTop (mkF m 3 #[.val (.ref a1), .val (.int i1), .val (.ref a3), .val (.int i3), .val (.int p5), .val (.int i5), s6] [])) t → Steps p.tables e below (s₁.setTop (entryFrame m #[(.ref a1), (.int p2), (.ref a3), (.int p4), (.int p5)] 7)) t) → ∃ s₂ o, Steps p.tables e below (s₁.setTop (entryFrame m #[(.ref a1), (.int p2), (.ref a3), (.int p4), (.int p5)] 7)) s₂ ∧ s₂.status = .running ∧ Ended s₂ below o ∧ ∃ v L, o = .returned v ∧ Q5 Z a1 p2 a3 p4 p5 z_a1 c_a1 z_a3 c_a3 h0 n0 v s₂.heap L ∧ FrameEnd s o s₂ L ({ frames := 0, cells := 0, slots := 0, locals := 0 } : Room).cells ({ frames := 0, cells := 0, slots := 0, locals := 0 } : Room).slots := by
    intro k
    induction k with
    | zero => intro i1 i3 i5 s6 y3 T6 LT6 h6 hs6 hI X6 e6 N6 c7 c8 c9 c10 hg0 hg1 preL; exact absurd hI (by omega)
    | succ k ih =>
      intro i1 i3 i5 s6 y3 T6 LT6 h6 hs6 hI X6 e6 N6 c7 c8 c9 c10 hg0 hg1 preL
      have pre2 : ∀ t, Steps p.tables e below (T6.setTop (mkF m 7 #[.val (.ref a1), .val (.int i1), .val (.ref a3), .val (.int i3), .val (.int p5), .val (.int i5), s6] [(.int p5), (.int i5)])) t → Steps p.tables e below (s₁.setTop (entryFrame m #[(.ref a1), (.int p2), (.ref a3), (.int p4), (.int p5)] 7)) t := by
        intro t k
        refine preL t ?_
        show Steps p.tables e below (T6.setTop (mkF m 3 #[.val (.ref a1), .val (.int i1), .val (.ref a3), .val (.int i3), .val (.int p5), .val (.int i5), s6] [])) _
        refine XS.iload X6.here hx rfl (hb hby d5_3) rfl ?_
        show Steps p.tables e below (T6.setTop (mkF m 5 #[.val (.ref a1), .val (.int i1), .val (.ref a3), .val (.int i3), .val (.int p5), .val (.int i5), s6] [(.int i5)])) _
        refine XS.iload X6.here hx rfl (hb hby d5_5) rfl ?_
        exact k
      by_cases hc7 : i5 < p5
      · have pre3 : ∀ t, Steps p.tables e below (T6.setTop (mkF m 20 #[.val (.ref a1), .val (.int i1), .val (.ref a3), .val (.int i3), .val (.int p5), .val (.int i5), .val (.int (c_a1 (i1).toNatClampNeg))] [(.int (255 : Int32)), (.int (c_a1 (i1).toNatClampNeg))])) t → Steps p.tables e below (s₁.setTop (entryFrame m #[(.ref a1), (.int p2), (.ref a3), (.int p4), (.int p5)] 7)) t := by
          intro t k
          refine pre2 t ?_
          show Steps p.tables e below (T6.setTop (mkF m 7 #[.val (.ref a1), .val (.int i1), .val (.ref a3), .val (.int i3), .val (.int p5), .val (.int i5), s6] [(.int p5), (.int i5)])) _
          refine XS.icmpNo X6.here hx rfl (hb hby d5_7) rfl (tlt hc7).2.1 ?_
          show Steps p.tables e below (T6.setTop (mkF m 10 #[.val (.ref a1), .val (.int i1), .val (.ref a3), .val (.int i3), .val (.int p5), .val (.int i5), s6] [])) _
          refine XS.aloadN X6.here hx rfl (hb hby d5_10) rfl rfl ?_
          show Steps p.tables e below (T6.setTop (mkF m 11 #[.val (.ref a1), .val (.int i1), .val (.ref a3), .val (.int i3), .val (.int p5), .val (.int i5), s6] [(.ref a1)])) _
          refine XS.iloadN X6.here hx rfl (hb hby d5_11) rfl ?_
          show Steps p.tables e below (T6.setTop (mkF m 12 #[.val (.ref a1), .val (.int i1), .val (.ref a3), .val (.int i3), .val (.int p5), .val (.int i5), s6] [(.int i1), (.ref a1)])) _
          refine ldC X6 hx hZ e6 c8 (j := i1) (own_c1 hI kz12 hz hc7) (g := (mkF m 12 #[.val (.ref a1), .val (.int i1), .val (.ref a3), .val (.int i3), .val (.int p5), .val (.int i5), s6] [(.int i1), (.ref a1)])) rfl rfl (hb hby d5_12) ?_
          show Steps p.tables e below (T6.setTop (mkF m 13 #[.val (.ref a1), .val (.int i1), .val (.ref a3), .val (.int i3), .val (.int p5), .val (.int i5), s6] [(.int (c_a1 (i1).toNatClampNeg))])) _
          refine XS.istoreS X6.here hx rfl (hb hby d5_13) rfl (o := s6) rfl hs6 ?_
          show Steps p.tables e below (T6.setTop (mkF m 15 #[.val (.ref a1), .val (.int i1), .val (.ref a3), .val (.int i3), .val (.int p5), .val (.int i5), .val (.int (c_a1 (i1).toNatClampNeg))] [])) _
          refine XS.iload X6.here hx rfl (hb hby d5_15) rfl ?_
          show Steps p.tables e below (T6.setTop (mkF m 17 #[.val (.ref a1), .val (.int i1), .val (.ref a3), .val (.int i3), .val (.int p5), .val (.int i5), .val (.int (c_a1 (i1).toNatClampNeg))] [(.int (c_a1 (i1).toNatClampNeg))])) _
          refine XS.sipush X6.here hx rfl (hb hby d5_17) ?_
          exact k
        by_cases hc20 : (255 : Int32) < (c_a1 (i1).toNatClampNeg)
        · have eq4 : (f5 p2 p4 p5 z_a1 c_a1 z_a3 c_a3) = i5 := by rw [← hg0]; simp only [g5_3, if_pos hc7, if_pos hc20]
          have eq5 : (f5_o0 p2 p4 p5 z_a1 c_a1 z_a3 c_a3) = y3 := by rw [← hg1]; simp only [g5_3_1, if_pos hc7, if_pos hc20]
          obtain ⟨fs, hr, hrun, hended, hW, hsame⟩ := X6.leave (v := some (.int i5)) (fun h => by rw [Bd.returns] at h; cases h)
          refine ⟨_, _, pre3 _ ?_, hrun, hended, _, _, rfl, ?_, ⟨_, rfl⟩, hW, hsame.mono (by decide) (by decide)⟩
          · show Steps p.tables e below (T6.setTop (mkF m 20 #[.val (.ref a1), .val (.int i1), .val (.ref a3), .val (.int i3), .val (.int p5), .val (.int i5), .val (.int (c_a1 (i1).toNatClampNeg))] [(.int (255 : Int32)), (.int (c_a1 (i1).toNatClampNeg))])) _
            refine XS.icmpNo X6.here hx rfl (hb hby d5_20) rfl (tlt hc20).2.2.2 ?_
            show Steps p.tables e below (T6.setTop (mkF m 23 #[.val (.ref a1), .val (.int i1), .val (.ref a3), .val (.int i3), .val (.int p5), .val (.int i5), .val (.int (c_a1 (i1).toNatClampNeg))] [])) _
            refine XS.iload X6.here hx rfl (hb hby d5_23) rfl ?_
            show Steps p.tables e below (T6.setTop (mkF m 25 #[.val (.ref a1), .val (.int i1), .val (.ref a3), .val (.int i3), .val (.int p5), .val (.int i5), .val (.int (c_a1 (i1).toNatClampNeg))] [(.int i5)])) _
            exact retI X6 hx Bd.returns (hb hby d5_25) hr
          · show Q5 Z a1 p2 a3 p4 p5 z_a1 c_a1 z_a3 c_a3 h0 n0 _ T6.heap _
            rw [e6]
            exact ⟨by rw [eq4], N6, c10, (by rw [eq5]; exact c9)⟩
        · obtain ⟨T11, h11, X11, e11, W11, V11, st11⟩ := sB X6 hx hZ e6 c9 (j := i3) (own_c2 hI kz12 hz3 hc7) (g := (mkF m 31 #[.val (.ref a1), .val (.int i1), .val (.ref a3), .val (.int i3), .val (.int p5), .val (.int i5), .val (.int (c_a1 (i1).toNatClampNeg))] [(.int ((c_a1 (i1).toNatClampNeg).toInt8.toInt32)), (.int i3), (.ref a3)])) rfl rfl (hb hby d5_31)
          have N11 := Fr.snoc X11 N6 g_a3
          have c12 : n0 ≤ h11.size := Nat.le_trans c7 (Keep.of_wr W11).1
          have c13 : IAr Z h11 a1 .char z_a1 c_a1 := c8.other W11 ne_a1_a3
          have c14 : IAr Z h11 a3 .byte z_a3 (ownU y3 (i3).toNatClampNeg (nar .byte ((c_a1 (i1).toNatClampNeg).toInt8.toInt32))) := V11
          have c15 : Keep h0 h11 [a3] := c10.wr W11 (Or.inl (List.mem_of_getElem? (i := 0) rfl))
          have eq6 : (f5 p2 p4 p5 z_a1 c_a1 z_a3 c_a3) = (g5_3 p2 p4 p5 z_a1 c_a1 z_a3 c_a3 k (i1 + (1 : Int32)) (i3 + (1 : Int32)) (i5 + (1 : Int32)) (ownU y3 (i3).toNatClampNeg (nar .byte ((c_a1 (i1).toNatClampNeg).toInt8.toInt32)))) := by rw [← hg0]; simp only [g5_3, if_pos hc7, if_neg hc20]
          have eq7 : (f5_o0 p2 p4 p5 z_a1 c_a1 z_a3 c_a3) = (g5_3_1 p2 p4 p5 z_a1 c_a1 z_a3 c_a3 k (i1 + (1 : Int32)) (i3 + (1 : Int32)) (i5 + (1 : Int32)) (ownU y3 (i3).toNatClampNeg (nar .byte ((c_a1 (i1).toNatClampNeg).toInt8.toInt32)))) := by rw [← hg1]; simp only [g5_3_1, if_pos hc7, if_neg hc20]
          have pre8 : ∀ t, Steps p.tables e below (T11.setTop (mkF m 3 #[.val (.ref a1), .val (.int (i1 + (1 : Int32))), .val (.ref a3), .val (.int (i3 + (1 : Int32))), .val (.int p5), .val (.int (i5 + (1 : Int32))), .val (.int (c_a1 (i1).toNatClampNeg))] [])) t → Steps p.tables e below (s₁.setTop (entryFrame m #[(.ref a1), (.int p2), (.ref a3), (.int p4), (.int p5)] 7)) t := by
            intro t k
            refine pre3 t ?_
            show Steps p.tables e below (T6.setTop (mkF m 20 #[.val (.ref a1), .val (.int i1), .val (.ref a3), .val (.int i3), .val (.int p5), .val (.int i5), .val (.int (c_a1 (i1).toNatClampNeg))] [(.int (255 : Int32)), (.int (c_a1 (i1).toNatClampNeg))])) _
            refine XS.icmpYes X6.here hx rfl (pc0 := 20) (pc' := 26) rfl (hb hby d5_20) rfl (flt hc20).2.2.2 (by decide) (by decide) ?_
            show Steps p.tables e below (T6.setTop (mkF m 26 #[.val (.ref a1), .val (.int i1), .val (.ref a3), .val (.int i3), .val (.int p5), .val (.int i5), .val (.int (c_a1 (i1).toNatClampNeg))] [])) _
            refine XS.aloadN X6.here hx rfl (hb hby d5_26) rfl rfl ?_
            show Steps p.tables e below (T6.setTop (mkF m 27 #[.val (.ref a1), .val (.int i1), .val (.ref a3), .val (.int i3), .val (.int p5), .val (.int i5), .val (.int (c_a1 (i1).toNatClampNeg))] [(.ref a3)])) _
            refine XS.iloadN X6.here hx rfl (hb hby d5_27) rfl ?_
            show Steps p.tables e below (T6.setTop (mkF m 28 #[.val (.ref a1), .val (.int i1), .val (.ref a3), .val (.int i3), .val (.int p5), .val (.int i5), .val (.int (c_a1 (i1).toNatClampNeg))] [(.int i3), (.ref a3)])) _
            refine XS.iload X6.here hx rfl (hb hby d5_28) rfl ?_
            show Steps p.tables e below (T6.setTop (mkF m 30 #[.val (.ref a1), .val (.int i1), .val (.ref a3), .val (.int i3), .val (.int p5), .val (.int i5), .val (.int (c_a1 (i1).toNatClampNeg))] [(.int (c_a1 (i1).toNatClampNeg)), (.int i3), (.ref a3)])) _
            refine XS.i2b X6.here hx rfl (hb hby d5_30) rfl ?_
            show Steps p.tables e below (T6.setTop (mkF m 31 #[.val (.ref a1), .val (.int i1), .val (.ref a3), .val (.int i3), .val (.int p5), .val (.int i5), .val (.int (c_a1 (i1).toNatClampNeg))] [(.int ((c_a1 (i1).toNatClampNeg).toInt8.toInt32)), (.int i3), (.ref a3)])) _
            refine st11 _ ?_
            show Steps p.tables e below (T11.setTop (mkF m 32 #[.val (.ref a1), .val (.int i1), .val (.ref a3), .val (.int i3), .val (.int p5), .val (.int i5), .val (.int (c_a1 (i1).toNatClampNeg))] [])) _
            refine XS.iinc X11.here hx rfl (hb hby d5_32) rfl (l' := #[.val (.ref a1), .val (.int (i1 + (1 : Int32))), .val (.ref a3), .val (.int i3), .val (.int p5), .val (.int i5), .val (.int (c_a1 (i1).toNatClampNeg))]) rfl ?_
            show Steps p.tables e below (T11.setTop (mkF m 35 #[.val (.ref a1), .val (.int (i1 + (1 : Int32))), .val (.ref a3), .val (.int i3), .val (.int p5), .val (.int i5), .val (.int (c_a1 (i1).toNatClampNeg))] [])) _
            refine XS.iinc X11.here hx rfl (hb hby d5_35) rfl (l' := #[.val (.ref a1), .val (.int (i1 + (1 : Int32))), .val (.ref a3), .val (.int (i3 + (1 : Int32))), .val (.int p5), .val (.int i5), .val (.int (c_a1 (i1).toNatClampNeg))]) rfl ?_
            show Steps p.tables e below (T11.setTop (mkF m 38 #[.val (.ref a1), .val (.int (i1 + (1 : Int32))), .val (.ref a3), .val (.int (i3 + (1 : Int32))), .val (.int p5), .val (.int i5), .val (.int (c_a1 (i1).toNatClampNeg))] [])) _
            refine XS.iinc X11.here hx rfl (hb hby d5_38) rfl (l' := #[.val (.ref a1), .val (.int (i1 + (1 : Int32))), .val (.ref a3), .val (.int (i3 + (1 : Int32))), .val (.int p5), .val (.int (i5 + (1 : Int32))), .val (.int (c_a1 (i1).toNatClampNeg))]) rfl ?_
            show Steps p.tables e below (T11.setTop (mkF m 41 #[.val (.ref a1), .val (.int (i1 + (1 : Int32))), .val (.ref a3), .val (.int (i3 + (1 : Int32))), .val (.int p5), .val (.int (i5 + (1 : Int32))), .val (.int (c_a1 (i1).toNatClampNeg))] [])) _
            refine XS.goto X11.here hx rfl (pc0 := 41) (pc' := 3) rfl (hb hby d5_41) (by decide) (by decide) ?_
            exact k
          exact ih (i1 + (1 : Int32)) (i3 + (1 : Int32)) (i5 + (1 : Int32)) (.val (.int (c_a1 (i1).toNatClampNeg))) (ownU y3 (i3).toNatClampNeg (nar .byte ((c_a1 (i1).toNatClampNeg).toInt8.toInt32))) T11 _ h11 (One.val rfl) (own_c3 hI kz12 hc7) X11 e11 N11 c12 c13 c14 c15  (eq6).symm (eq7).symm pre8
      · have eq9 : (f5 p2 p4 p5 z_a1 c_a1 z_a3 c_a3) = p5 := by rw [← hg0]; simp only [g5_3, if_neg hc7]
        have eq10 : (f5_o0 p2 p4 p5 z_a1 c_a1 z_a3 c_a3) = y3 := by rw [← hg1]; simp only [g5_3_1, if_neg hc7]
        obtain ⟨fs, hr, hrun, hended, hW, hsame⟩ := X6.leave (v := some (.int p5)) (fun h => by rw [Bd.returns] at h; cases h)
        refine ⟨_, _, pre2 _ ?_, hrun, hended, _, _, rfl, ?_, ⟨_, rfl⟩, hW, hsame.mono (by decide) (by decide)⟩
        · show Steps p.tables e below (T6.setTop (mkF m 7 #[.val (.ref a1), .val (.int i1), .val (.ref a3), .val (.int i3), .val (.int p5), .val (.int i5), s6] [(.int p5), (.int i5)])) _
          refine XS.icmpYes X6.here hx rfl (pc0 := 7) (pc' := 44) rfl (hb hby d5_7) rfl (flt hc7).2.1 (by decide) (by decide) ?_
          show Steps p.tables e below (T6.setTop (mkF m 44 #[.val (.ref a1), .val (.int i1), .val (.ref a3), .val (.int i3), .val (.int p5), .val (.int i5), s6] [])) _
          refine XS.iload X6.here hx rfl (hb hby d5_44) rfl ?_
          show Steps p.tables e below (T6.setTop (mkF m 46 #[.val (.ref a1), .val (.int i1), .val (.ref a3), .val (.int i3), .val (.int p5), .val (.int i5), s6] [(.int p5)])) _
          exact retI X6 hx Bd.returns (hb hby d5_46) hr
        · show Q5 Z a1 p2 a3 p4 p5 z_a1 c_a1 z_a3 c_a3 h0 n0 _ T6.heap _
          rw [e6]
          exact ⟨by rw [eq9], N6, c10, (by rw [eq10]; exact c9)⟩
  exact loop3 13 p2 p4 (0 : Int32) .unset c_a3 s₁ _ h0 (One.u) (own_c4 kz0 kz4) X0 e0 N0 Z0 V_a1 V_a3 (Keep.refl h0 [a3]) (rfl) (rfl) pre1
theorem pd_3 : parseMethodDescriptor "([CI[BII)I" = some ⟨[(.array .char), .int, (.array .byte), .int, .int], some .int⟩ := by decide +kernel
theorem pd_4 : parseMethodDescriptor "([CII)[B" = some ⟨[(.array .char), .int, .int], some (.array .byte)⟩ := by decide +kernel
theorem pd_5 : parseMethodDescriptor "([BI)C" = some ⟨[(.array .byte), .int], some .char⟩ := by decide +kernel
theorem d4_0 : decode jdk_52_method_16_code 0 = .ok (.iload_n 2, 1) := by decide +kernel
theorem d4_1 : decode jdk_52_method_16_code 1 = .ok (.newarray .byte, 2) := by decide +kernel
theorem d4_3 : decode jdk_52_method_16_code 3 = .ok (.astore_n 3, 1) := by decide +kernel
theorem d4_4 : decode jdk_52_method_16_code 4 = .ok (.aload_n 0, 1) := by decide +kernel
theorem d4_5 : decode jdk_52_method_16_code 5 = .ok (.iload_n 1, 1) := by decide +kernel
theorem d4_6 : decode jdk_52_method_16_code 6 = .ok (.aload_n 3, 1) := by decide +kernel
theorem d4_7 : decode jdk_52_method_16_code 7 = .ok (.iconst 0, 1) := by decide +kernel
theorem d4_8 : decode jdk_52_method_16_code 8 = .ok (.iload_n 2, 1) := by decide +kernel
theorem d4_9 : decode jdk_52_method_16_code 9 = .ok (.invokestatic 115, 3) := by decide +kernel
theorem d4_12 : decode jdk_52_method_16_code 12 = .ok (.istore 4, 2) := by decide +kernel
theorem d4_14 : decode jdk_52_method_16_code 14 = .ok (.iload 4, 2) := by decide +kernel
theorem d4_16 : decode jdk_52_method_16_code 16 = .ok (.iload_n 2, 1) := by decide +kernel
theorem d4_17 : decode jdk_52_method_16_code 17 = .ok (.if_icmp .eq 40, 3) := by decide +kernel
theorem d4_20 : decode jdk_52_method_16_code 20 = .ok (.aload_n 0, 1) := by decide +kernel
theorem d4_21 : decode jdk_52_method_16_code 21 = .ok (.iload_n 1, 1) := by decide +kernel
theorem d4_22 : decode jdk_52_method_16_code 22 = .ok (.iload_n 2, 1) := by decide +kernel
theorem d4_23 : decode jdk_52_method_16_code 23 = .ok (.invokestatic 119, 3) := by decide +kernel
theorem d4_26 : decode jdk_52_method_16_code 26 = .ok (.astore 5, 2) := by decide +kernel
theorem d4_28 : decode jdk_52_method_16_code 28 = .ok (.aload 5, 2) := by decide +kernel
theorem d4_30 : decode jdk_52_method_16_code 30 = .ok (.iload 4, 2) := by decide +kernel
theorem d4_32 : decode jdk_52_method_16_code 32 = .ok (.invokestatic 71, 3) := by decide +kernel
theorem d4_35 : decode jdk_52_method_16_code 35 = .ok (.sipush 255, 3) := by decide +kernel
theorem d4_38 : decode jdk_52_method_16_code 38 = .ok (.if_icmp .gt 16, 3) := by decide +kernel
theorem d4_54 : decode jdk_52_method_16_code 54 = .ok (.aload 5, 2) := by decide +kernel
theorem d4_56 : decode jdk_52_method_16_code 56 = .ok (.areturn, 1) := by decide +kernel
theorem d4_57 : decode jdk_52_method_16_code 57 = .ok (.aload_n 3, 1) := by decide +kernel
theorem d4_58 : decode jdk_52_method_16_code 58 = .ok (.areturn, 1) := by decide +kernel
theorem ef_4 (m : MethodId) (x0 : Addr) (x1 : Int32) (x2 : Int32) : entryFrame m #[(.ref x0), (.int x1), (.int x2)] 6 = mkF m 0 #[.val (.ref x0), .val (.int x1), .val (.int x2), .unset, .unset, .unset] [] := by first | (simp [entryFrame, mkF, argsToLocals, Value.category]; done) | rfl
theorem own_nbyte (x : Int32) : ((nar .byte (x.toInt8.toInt32)).toInt - x.toInt) % 256 = 0 := by
  have a := c_i2b x
  have b := c_i2b (x.toInt8.toInt32)
  show ((x.toInt8.toInt32).toInt8.toInt32.toInt - x.toInt) % 256 = 0
  omega
theorem own_nchar (x : Int32) : ((nar .char (x.toUInt32.toUInt16.toUInt32.toInt32)).toInt - x.toInt) % 65536 = 0 ∧ 0 ≤ (nar .char (x.toUInt32.toUInt16.toUInt32.toInt32)).toInt ∧ (nar .char (x.toUInt32.toUInt16.toUInt32.toInt32)).toInt < 65536 := by
  have a := c_i2c x
  have b := c_i2c (x.toUInt32.toUInt16.toUInt32.toInt32)
  show ((x.toUInt32.toUInt16.toUInt32.toInt32).toUInt32.toUInt16.toUInt32.toInt32.toInt - x.toInt) % 65536 = 0 ∧ 0 ≤ (x.toUInt32.toUInt16.toUInt32.toInt32).toUInt32.toUInt16.toUInt32.toInt32.toInt ∧ (x.toUInt32.toUInt16.toUInt32.toInt32).toUInt32.toUInt16.toUInt32.toInt32.toInt < 65536
  omega
theorem own_g5 (p2 p4 z1 z3 : Int32) (c c3 : Nat → Int32) : ∀ (k : Nat) (i1 i3 i5 : Int32) (y : Nat → Int32), (i1.toInt = i5.toInt ∧ i3.toInt = i5.toInt ∧ 0 ≤ i5.toInt ∧ i5.toInt ≤ 12 ∧ 12 - i5.toInt < (k : Int)) →
    (g5_3 p2 p4 12 z1 c z3 c3 k i1 i3 i5 y = 12 ∧ (∀ j : Nat, (j : Int) < i5.toInt → g5_3_1 p2 p4 12 z1 c z3 c3 k i1 i3 i5 y j = y j) ∧ (∀ j : Nat, i5.toInt ≤ j → j < 12 → (c j).toInt ≤ 255 ∧ g5_3_1 p2 p4 12 z1 c z3 c3 k i1 i3 i5 y j = nar .byte ((c j).toInt8.toInt32))) ∨
    (0 ≤ (g5_3 p2 p4 12 z1 c z3 c3 k i1 i3 i5 y).toInt ∧ (g5_3 p2 p4 12 z1 c z3 c3 k i1 i3 i5 y).toInt < 12 ∧ 255 < (c (g5_3 p2 p4 12 z1 c z3 c3 k i1 i3 i5 y).toNatClampNeg).toInt) := by
  intro k
  induction k with
  | zero => intro i1 i3 i5 y h; omega
  | succ k ih =>
    intro i1 i3 i5 y h
    simp only [g5_3, g5_3_1]
    by_cases h1 : i5 < 12
    · simp only [if_pos h1]
      have s := own_c3 h rfl h1
      rw [Int32.lt_iff_toInt_lt, own_e12] at h1
      obtain ⟨n, hn⟩ : ∃ n : Nat, i5.toInt = n := ⟨i5.toInt.toNat, by omega⟩
      have n1 := own_cl32 (h.1.trans hn)
      have n3 := own_cl32 (h.2.1.trans hn)
      have n5 := own_cl32 hn
      have s5 := own_inc (i := i5) (by omega)
      by_cases h2 : (255 : Int32) < c i1.toNatClampNeg
      · simp only [if_pos h2]
        rw [n1, Int32.lt_iff_toInt_lt, show (255 : Int32).toInt = 255 from rfl] at h2
        refine Or.inr ⟨by omega, by omega, ?_⟩
        rw [n5]; exact h2
      · simp only [if_neg h2]
        rw [n1, Int32.lt_iff_toInt_lt, show (255 : Int32).toInt = 255 from rfl] at h2
        rcases ih (i1 + 1) (i3 + 1) (i5 + 1) (ownU y i3.toNatClampNeg (nar .byte ((c i1.toNatClampNeg).toInt8.toInt32))) s with ⟨a, b, d⟩ | a
        · refine Or.inl ⟨a, fun j hj => ?_, fun j hj hj' => ?_⟩
          · rw [b j (by omega)]
            show (if j = _ then _ else _) = _
            rw [if_neg (by omega)]
          · by_cases e : j = n
            · subst e
              refine ⟨by omega, ?_⟩
              rw [b j (by omega), n1, n3]
              show (if j = j then _ else _) = _
              rw [if_pos rfl]
            · exact d j (by omega) hj'
        · exact Or.inr a
    · simp only [if_neg h1]
      rw [Int32.lt_iff_toInt_lt, own_e12] at h1
      exact Or.inl ⟨trivial, fun _ _ => trivial, fun j _ _ => by omega⟩
theorem own_f5 (z1 : Int32) (c : Nat → Int32) : (f5 0 0 12 z1 c 12 (fun _ => 0) = 12 ∧ (∀ j : Nat, j < 12 → (c j).toInt ≤ 255 ∧ f5_o0 0 0 12 z1 c 12 (fun _ => 0) j = nar .byte ((c j).toInt8.toInt32))) ∨
    (0 ≤ (f5 0 0 12 z1 c 12 (fun _ => 0)).toInt ∧ (f5 0 0 12 z1 c 12 (fun _ => 0)).toInt < 12 ∧ 255 < (c (f5 0 0 12 z1 c 12 (fun _ => 0)).toNatClampNeg).toInt) := by
  rcases own_g5 0 0 z1 12 c (fun _ => 0) 13 0 0 0 (fun _ => 0) (own_c4 rfl rfl) with ⟨a, -, d⟩ | a
  · exact Or.inl ⟨a, fun j hj => d j (by rw [own_e0]; omega) hj⟩
  · exact Or.inr a
theorem own_13n (p2 z : Int32) (c : Nat → Int32) : ∀ (k : Nat) (i1 i4 : Int32) (y : Nat → Int32), (i1.toInt = i4.toInt ∧ 0 ≤ i4.toInt ∧ i4.toInt ≤ 12 ∧ 12 - i4.toInt < (k : Int)) → g13_8 p2 12 z c k i1 i4 y = 24 := by
  intro k
  induction k with
  | zero => intro i1 i4 y h; omega
  | succ k ih =>
    intro i1 i4 y h
    simp only [g13_8]
    by_cases h1 : i4 < 12
    · rw [if_pos h1]
      exact ih _ _ _ (own_t3 h rfl h1)
    · rw [if_neg h1]
      exact own_14
theorem own_13c (p2 z : Int32) (c : Nat → Int32) : ∀ (k : Nat) (i1 i4 : Int32) (y : Nat → Int32), (i1.toInt = i4.toInt ∧ 0 ≤ i4.toInt ∧ i4.toInt ≤ 12 ∧ 12 - i4.toInt < (k : Int)) →
    (∀ j : Nat, (j : Int) < 2 * i4.toInt → g13_8_1 p2 12 z c k i1 i4 y j = y j) ∧ (∀ j : Nat, i4.toInt ≤ j → j < 12 → g13_8_1 p2 12 z c k i1 i4 y (2 * j) = nar .byte (((c j) >>> ((0 : Int32) &&& 31)).toInt8.toInt32) ∧ g13_8_1 p2 12 z c k i1 i4 y (2 * j + 1) = nar .byte (((c j) >>> ((8 : Int32) &&& 31)).toInt8.toInt32)) := by
  intro k
  induction k with
  | zero => intro i1 i4 y h; omega
  | succ k ih =>
    intro i1 i4 y h
    simp only [g13_8_1]
    by_cases h1 : i4 < 12
    · simp only [if_pos h1]
      have s := own_t3 h rfl h1
      rw [Int32.lt_iff_toInt_lt, own_e12] at h1
      obtain ⟨n, hn⟩ : ∃ n : Nat, i4.toInt = n := ⟨i4.toInt.toNat, by omega⟩
      have n1 := own_cl32 (h.1.trans hn)
      have s4 := own_inc (i := i4) (by omega)
      have m1 : (i4 <<< ((1 : Int32) &&& 31)).toNatClampNeg = 2 * n := own_cl32 (by rw [own_sh1 (by omega) h1, hn]; omega)
      have m2 : ((i4 <<< ((1 : Int32) &&& 31)) + 1).toNatClampNeg = 2 * n + 1 := own_cl32 (by rw [own_sh2 (by omega) h1, hn]; omega)
      have hy : ∀ j, f16_o0 i4 (c i1.toNatClampNeg) (f14_x0n 12) y j = if j = 2 * n + 1 then nar .byte (((c n) >>> ((8 : Int32) &&& 31)).toInt8.toInt32) else if j = 2 * n then nar .byte (((c n) >>> ((0 : Int32) &&& 31)).toInt8.toInt32) else y j := by
        intro j
        simp only [f16_o0, f16_v52, f16_v43, ownU, m1, m2, n1]
      obtain ⟨a, b⟩ := ih (i1 + 1) (i4 + 1) (f16_o0 i4 (c i1.toNatClampNeg) (f14_x0n 12) y) s
      refine ⟨fun j hj => ?_, fun j hj hj' => ?_⟩
      · rw [a j (by omega), hy, if_neg (by omega), if_neg (by omega)]
      · by_cases e : j = n
        · subst e
          rw [a (2 * j) (by omega), a (2 * j + 1) (by omega), hy, hy, if_neg (by omega), if_pos rfl, if_pos rfl]
          exact ⟨rfl, rfl⟩
        · exact b j (by omega) hj'
    · simp only [if_neg h1]
      rw [Int32.lt_iff_toInt_lt, own_e12] at h1
      exact ⟨fun _ _ => trivial, fun j _ _ => by omega⟩
theorem own_get (z1 z : Int32) (c : Nat → Int32) (hch : ∀ i, 0 ≤ (c i).toInt ∧ (c i).toInt < 65536) (p : Int32) (n : Nat) (hp : p.toInt = n) (hn : n < 12) : f17 p z (f13_x0c 0 12 z1 c) = c n := by
  have m1 : (p <<< ((1 : Int32) &&& 31)).toNatClampNeg = 2 * n := own_cl32 (by rw [own_sh1 (by omega) (by omega), hp]; omega)
  have m2 : ((p <<< ((1 : Int32) &&& 31)) + 1).toNatClampNeg = 2 * n + 1 := own_cl32 (by rw [own_sh2 (by omega) (by omega), hp]; omega)
  have q := (own_13c 0 z1 c 13 0 0 (f14_x0c 12) (own_t4 rfl)).2 n (by rw [own_e0]; omega) hn
  have e1 : f13_x0c 0 12 z1 c (2 * n) = _ := q.1
  have e2 : f13_x0c 0 12 z1 c (2 * n + 1) = _ := q.2
  have r := hch n
  unfold f17
  rw [m1, m2, e1, e2]
  have s0 := c_ishr (c n) 0 0 rfl
  have s8 := c_ishr (c n) 8 8 rfl
  have b0 := own_nbyte ((c n) >>> ((0 : Int32) &&& 31))
  have b8 := own_nbyte ((c n) >>> ((8 : Int32) &&& 31))
  generalize nar .byte (((c n) >>> ((0 : Int32) &&& 31)).toInt8.toInt32) = x0 at *
  generalize nar .byte (((c n) >>> ((8 : Int32) &&& 31)).toInt8.toInt32) = x8 at *
  have k0 := c_mask x0 255 8 (by decide) rfl
  have k8 := c_mask x8 255 8 (by decide) rfl
  have l0 := c_ishl (x0 &&& 255) 0 0 rfl
  have l8 := c_ishl (x8 &&& 255) 8 8 rfl
  have t0 := rng32 ((x0 &&& 255) <<< ((0 : Int32) &&& 31))
  have t8 := rng32 ((x8 &&& 255) <<< ((8 : Int32) &&& 31))
  have v0 : ((x0 &&& 255) <<< ((0 : Int32) &&& 31)).toInt = (c n).toInt % 256 := by omega
  have v8 : ((x8 &&& 255) <<< ((8 : Int32) &&& 31)).toInt = (c n).toInt / 256 * 256 := by omega
  have o := c_or' ((x0 &&& 255) <<< ((0 : Int32) &&& 31)) ((x8 &&& 255) <<< ((8 : Int32) &&& 31)) 8 (by decide) 256 rfl (by omega) (by omega) (by omega)
  have w := own_nchar (((x0 &&& 255) <<< ((0 : Int32) &&& 31)) ||| ((x8 &&& 255) <<< ((8 : Int32) &&& 31)))
  apply Int32.toInt_inj.mp
  clear k0 k8 l0 l8 t0 t8 b0 b8 s0 s8
  omega
theorem own_k1 {p2 p3 z : Int32} {c : Nat → Int32} (h0 : p2 = 0) (h12 : p3 = 12) (hz : z = 12) (h : ¬ (f5 p2 0 p3 z c p3 (fun _ => 0)) = p3) : 0 ≤ (f5 p2 0 p3 z c p3 (fun _ => 0)).toInt ∧ (f5 p2 0 p3 z c p3 (fun _ => 0)).toInt < 12 ∧ f13_x0n p2 p3 z c = 24 := by
  subst h0 h12
  rcases own_f5 z c with a | a
  · exact absurd a.1 h
  · exact ⟨a.1, a.2.1, own_13n 0 z c 13 0 0 _ (own_t4 rfl)⟩
theorem own_k2 {p2 p3 z : Int32} {c : Nat → Int32} (h0 : p2 = 0) (h12 : p3 = 12) (hz : z = 12) (hch : ∀ i, 0 ≤ (c i).toInt ∧ (c i).toInt < 65536) (h : ¬ (f5 p2 0 p3 z c p3 (fun _ => 0)) = p3) : (255 : Int32) < f17 (f5 p2 0 p3 z c p3 (fun _ => 0)) (f13_x0n p2 p3 z c) (f13_x0c p2 p3 z c) := by
  subst h0 h12
  rcases own_f5 z c with a | a
  · exact absurd a.1 h
  · obtain ⟨n, hn⟩ : ∃ n : Nat, (f5 0 0 12 z c 12 (fun _ => 0)).toInt = n := ⟨(f5 0 0 12 z c 12 (fun _ => 0)).toInt.toNat, by omega⟩
    rw [own_get z _ c hch _ n hn (by omega), Int32.lt_iff_toInt_lt, ← own_cl32 hn]
    exact a.2.2
def f4_x0n (p2 : Int32) (p3 : Int32) (z_a1 : Int32) (c_a1 : Nat → Int32) : Int32 := (if (f5 p2 (0 : Int32) p3 z_a1 c_a1 p3 (fun _ => 0)) = p3 then p3 else (f13_x0n p2 p3 z_a1 c_a1))
def f4_x0c (p2 : Int32) (p3 : Int32) (z_a1 : Int32) (c_a1 : Nat → Int32) : Nat → Int32 := (if (f5 p2 (0 : Int32) p3 z_a1 c_a1 p3 (fun _ => 0)) = p3 then (f5_o0 p2 (0 : Int32) p3 z_a1 c_a1 p3 (fun _ => 0)) else (f13_x0c p2 p3 z_a1 c_a1))
def Q4 (Z : State) (a1 : Addr) (p2 : Int32) (p3 : Int32) (z_a1 : Int32) (c_a1 : Nat → Int32) (h0 : Heap) (n0 : Nat) (v : Option Value) (h : Heap) (L : List Loc) : Prop := ∃ (r0 : Addr), v = some (.ref r0) ∧ Fr n0 L ∧ Keep h0 h [] ∧ h0.size ≤ r0 ∧ IAr Z h r0 .byte (f4_x0n p2 p3 z_a1 c_a1) (f4_x0c p2 p3 z_a1 c_a1)
set_option maxRecDepth 65536 in
set_option maxHeartbeats 40000000 in
theorem rm4 (l : Launch) (Z : State) (a0 : Array Value) (hw : ∀ d ∈ tables_1, d.before a0 Z = true) (ws : List Jvm.Cond) (a1 : Addr) (p2 : Int32) (p3 : Int32) (z_a1 : Int32) (c_a1 : Nat → Int32) (h0 : Heap) (n0 : Nat) (Z0 : n0 ≤ h0.size) (V_a1 : IAr Z h0 a1 .char z_a1 c_a1) (S__assertionsDisabled : Sta Z h0 "java/lang/StringUTF16" "$assertionsDisabled" "Z" (.int (1 : Int32))) (S_HI_BYTE_SHIFT : Sta Z h0 "java/lang/StringUTF16" "HI_BYTE_SHIFT" "I" (.int (0 : Int32))) (S_LO_BYTE_SHIFT : Sta Z h0 "java/lang/StringUTF16" "LO_BYTE_SHIFT" "I" (.int (8 : Int32))) (kz0 : p2 = 0) (kz12 : p3 = 12) (hz : z_a1 = 12) (hch : ∀ i, 0 ≤ (c_a1 i).toInt ∧ (c_a1 i).toInt < 65536) :
    MetFree l (⟨"java/lang/StringUTF16", "compress", "([CII)[B"⟩ : MethodName) (head1 (Jvm.Cond.code (⟨"java/lang/StringUTF16", "compress", "([CII)[B"⟩ : MethodName) jdk_52_method_16_code 6 (some (.array .byte)) :: ws) ({ frames := 3, cells := 2, slots := 36, locals := 40 } : Room)) (fun a U => a = #[(.ref a1), (.int p2), (.int p3)] ∧ Z.Warmed39 U.vm ∧ U.heap = h0) (fun _ _ _ _ _ => True) (fun _ U o U' => ∃ v L, o = .returned v ∧ Q4 Z a1 p2 p3 z_a1 c_a1 h0 n0 v U'.heap L ∧ FrameEnd U o U' L ({ frames := 3, cells := 2, slots := 36, locals := 40 } : Room).cells ({ frames := 3, cells := 2, slots := 36, locals := 40 } : Room).slots) := by
  refine MetFree.of_bodySF (plainFor_of_name pn_0) hisR ?_
  intro p e s m args below meth c s₁ Bd hml0 hP hK
  obtain ⟨rfl, hZ, hh⟩ := hP
  have hx := Bd.exec
  have hby := Bd.bytes
  have hml : c.maxLocals = 6 := hml0
  have hown : s.vm.findClass "java/lang/StringUTF16" = some m.cls := findClass_of_methodNamed Bd.named
  have hnm := (name_of_methodNamed Bd.named Bd.method).1
  have X0 : Stand p l e ({ frames := 3, cells := 2, slots := 36, locals := 40 } : Room) s m #[(.ref a1), (.int p2), (.int p3)] below meth c s₁ [] 0 0 := Stand.of_body Bd
  have e0 : s₁.heap = h0 := by rw [← hh, Bd.state]; rfl
  have N0 := Fr.nil n0
  have pre0 : ∀ t, Steps p.tables e below (s₁.setTop (mkF m 0 #[.val (.ref a1), .val (.int p2), .val (.int p3), .unset, .unset, .unset] [])) t → Steps p.tables e below (s₁.setTop (entryFrame m #[(.ref a1), (.int p2), (.int p3)] 6)) t := fun t k => castTop (ef_4 m a1 p2 p3) k
  obtain ⟨T4, h4, k4, X4, e4, E4, A4, st4⟩ := newP X0 hx hZ (hw _ (List.mem_of_getElem? (i := 2) rfl)) e0 (g := (mkF m 1 #[.val (.ref a1), .val (.int p2), .val (.int p3), .unset, .unset, .unset] [(.int p3)])) rfl (hb hby d4_1) rfl (by rw [kz12]; decide) (cap := 12) (by rw [kz12]; decide) (by decide) (by decide) (by decide)
  obtain ⟨b4, g4⟩ : ∃ z, z = h0.size := ⟨_, rfl⟩
  rw [← g4] at A4 st4
  have ne_a1_b4 : a1 ≠ b4 := Nat.ne_of_lt (Nat.lt_of_lt_of_le V_a1.lt (Nat.le_of_eq g4.symm))
  have g_b4 : n0 ≤ b4 := Nat.le_trans Z0 (Nat.le_of_eq g4.symm)
  have sz_b4 : h0.size ≤ b4 := Nat.le_trans (Keep.refl h0 []).1 (Nat.le_of_eq g4.symm)
  have c5 : n0 ≤ h4.size := Nat.le_trans Z0 E4.1
  have c6 : IAr Z h4 a1 .char z_a1 c_a1 := V_a1.ext E4
  have c7 : Sta Z h4 "java/lang/StringUTF16" "$assertionsDisabled" "Z" (.int (1 : Int32)) := S__assertionsDisabled.ext E4
  have c8 : Sta Z h4 "java/lang/StringUTF16" "HI_BYTE_SHIFT" "I" (.int (0 : Int32)) := S_HI_BYTE_SHIFT.ext E4
  have c9 : Sta Z h4 "java/lang/StringUTF16" "LO_BYTE_SHIFT" "I" (.int (8 : Int32)) := S_LO_BYTE_SHIFT.ext E4
  have c10 : Keep h0 h4 [] := (Keep.refl h0 []).ext E4
  have c11 : IAr Z h4 b4 .byte p3 (fun _ => 0) := IAr.new A4 (by rw [kz12]; decide) rfl
  obtain ⟨_, _, ⟨T12, L12, k12, n12⟩, -, X12, ⟨Lc12, hQ12, l12, y12, z12⟩, st12⟩ := Jvm.LawKit.callS X4 hx (y := (⟨"java/lang/StringUTF16", "compress", "([CI[BII)I"⟩ : MethodName)) hown (mvT hZ (hw _ (List.mem_of_getElem? (i := 23) rfl))) (mvT hZ (hw _ (List.mem_of_getElem? (i := 24) rfl))) (mvT hZ (hw _ (List.mem_of_getElem? (i := 21) rfl))) (mvT hZ (hw _ (List.mem_of_getElem? (i := 25) rfl))) (by decide) (backOf (W := 0) (rm5 l Z a0 hw [] a1 p2 b4 (0 : Int32) p3 z_a1 c_a1 p3 (fun _ => 0) h4 n0 c5 c6 c11 g_b4 ne_a1_b4 kz0 rfl kz12 hz kz12) hZ (hw _ (List.mem_of_getElem? (i := 25) rfl)) (hw _ (List.mem_of_getElem? (i := 21) rfl)) (by decide) (by decide)) (g := (mkF m 9 #[.val (.ref a1), .val (.int p2), .val (.int p3), .val (.ref b4), .unset, .unset] [(.int p3), (.int (0 : Int32)), (.ref b4), (.int p2), (.ref a1)])) rfl (by rw [hml]; rfl) (argsL := [(.ref a1), (.int p2), (.ref b4), (.int (0 : Int32)), (.int p3)]) (rest := []) (lenOf pd_3 rfl) rfl (by show 2 * 0 + _ ≤ _; exact Nat.le_of_eq rfl) (hb hby d4_9) (fun _ _ => ⟨rfl, e4, (by decide : 1 + 0 ≤ _), (by decide : 12 + 0 ≤ _)⟩)
  dsimp only [Pt.U, Pt.locs, Pt.cells, Pt.slots] at X12 l12 y12 z12 st12 hQ12
  subst l12 y12 z12
  obtain ⟨rfl, N12q, K12, o12_0⟩ := hQ12
  have N12 := Fr.app N0 N12q
  have c13 : n0 ≤ T12.heap.size := Nat.le_trans c5 K12.1
  have c14 : IAr Z T12.heap a1 .char z_a1 c_a1 := c6.keep K12 (ninS ne_a1_b4 nin0)
  have c15 : Sta Z T12.heap "java/lang/StringUTF16" "$assertionsDisabled" "Z" (.int (1 : Int32)) := own_staK c7 K12 (own_nsS c11.nostat own_ns0)
  have c16 : Sta Z T12.heap "java/lang/StringUTF16" "HI_BYTE_SHIFT" "I" (.int (0 : Int32)) := own_staK c8 K12 (own_nsS c11.nostat own_ns0)
  have c17 : Sta Z T12.heap "java/lang/StringUTF16" "LO_BYTE_SHIFT" "I" (.int (8 : Int32)) := own_staK c9 K12 (own_nsS c11.nostat own_ns0)
  have c18 : Keep h0 T12.heap [] := c10.trans K12 (allS (Or.inr sz_b4) all0)
  have c19 : IAr Z T12.heap b4 .byte p3 (f5_o0 p2 (0 : Int32) p3 z_a1 c_a1 p3 (fun _ => 0)) := o12_0
  have pre1 : ∀ t, Steps p.tables e below (T12.setTop (mkF m 17 #[.val (.ref a1), .val (.int p2), .val (.int p3), .val (.ref b4), .val (.int (f5 p2 (0 : Int32) p3 z_a1 c_a1 p3 (fun _ => 0))), .unset] [(.int p3), (.int (f5 p2 (0 : Int32) p3 z_a1 c_a1 p3 (fun _ => 0)))])) t → Steps p.tables e below (s₁.setTop (entryFrame m #[(.ref a1), (.int p2), (.int p3)] 6)) t := by
    intro t k
    refine pre0 t ?_
    show Steps p.tables e below (s₁.setTop (mkF m 0 #[.val (.ref a1), .val (.int p2), .val (.int p3), .unset, .unset, .unset] [])) _
    refine XS.iloadN X0.here hx rfl (hb hby d4_0) rfl ?_
    show Steps p.tables e below (s₁.setTop (mkF m 1 #[.val (.ref a1), .val (.int p2), .val (.int p3), .unset, .unset, .unset] [(.int p3)])) _
    refine st4 _ ?_
    show Steps p.tables e below (T4.setTop (mkF m 3 #[.val (.ref a1), .val (.int p2), .val (.int p3), .unset, .unset, .unset] [(.ref b4)])) _
    refine XS.astoreN X4.here hx rfl (hb hby d4_3) rfl rfl (l' := #[.val (.ref a1), .val (.int p2), .val (.int p3), .val (.ref b4), .unset, .unset]) rfl ?_
    show Steps p.tables e below (T4.setTop (mkF m 4 #[.val (.ref a1), .val (.int p2), .val (.int p3), .val (.ref b4), .unset, .unset] [])) _
    refine XS.aloadN X4.here hx rfl (hb hby d4_4) rfl rfl ?_
    show Steps p.tables e below (T4.setTop (mkF m 5 #[.val (.ref a1), .val (.int p2), .val (.int p3), .val (.ref b4), .unset, .unset] [(.ref a1)])) _
    refine XS.iloadN X4.here hx rfl (hb hby d4_5) rfl ?_
    show Steps p.tables e below (T4.setTop (mkF m 6 #[.val (.ref a1), .val (.int p2), .val (.int p3), .val (.ref b4), .unset, .unset] [(.int p2), (.ref a1)])) _
    refine XS.aloadN X4.here hx rfl (hb hby d4_6) rfl rfl ?_
    show Steps p.tables e below (T4.setTop (mkF m 7 #[.val (.ref a1), .val (.int p2), .val (.int p3), .val (.ref b4), .unset, .unset] [(.ref b4), (.int p2), (.ref a1)])) _
    refine XS.iconst X4.here hx rfl (hb hby d4_7) ?_
    show Steps p.tables e below (T4.setTop (mkF m 8 #[.val (.ref a1), .val (.int p2), .val (.int p3), .val (.ref b4), .unset, .unset] [(.int (0 : Int32)), (.ref b4), (.int p2), (.ref a1)])) _
    refine XS.iloadN X4.here hx rfl (hb hby d4_8) rfl ?_
    show Steps p.tables e below (T4.setTop (mkF m 9 #[.val (.ref a1), .val (.int p2), .val (.int p3), .val (.ref b4), .unset, .unset] [(.int p3), (.int (0 : Int32)), (.ref b4), (.int p2), (.ref a1)])) _
    refine st12 _ ?_
    show Steps p.tables e below (T12.setTop (mkF m 12 #[.val (.ref a1), .val (.int p2), .val (.int p3), .val (.ref b4), .unset, .unset] [(.int (f5 p2 (0 : Int32) p3 z_a1 c_a1 p3 (fun _ => 0)))])) _
    refine XS.istore X12.here hx rfl (hb hby d4_12) rfl (l' := #[.val (.ref a1), .val (.int p2), .val (.int p3), .val (.ref b4), .val (.int (f5 p2 (0 : Int32) p3 z_a1 c_a1 p3 (fun _ => 0))), .unset]) rfl ?_
    show Steps p.tables e below (T12.setTop (mkF m 14 #[.val (.ref a1), .val (.int p2), .val (.int p3), .val (.ref b4), .val (.int (f5 p2 (0 : Int32) p3 z_a1 c_a1 p3 (fun _ => 0))), .unset] [])) _
    refine XS.iload X12.here hx rfl (hb hby d4_14) rfl ?_
    show Steps p.tables e below (T12.setTop (mkF m 16 #[.val (.ref a1), .val (.int p2), .val (.int p3), .val (.ref b4), .val (.int (f5 p2 (0 : Int32) p3 z_a1 c_a1 p3 (fun _ => 0))), .unset] [(.int (f5 p2 (0 : Int32) p3 z_a1 c_a1 p3 (fun _ => 0)))])) _
    refine XS.iloadN X12.here hx rfl (hb hby d4_16) rfl ?_
    exact k
  by_cases hc17 : (f5 p2 (0 : Int32) p3 z_a1 c_a1 p3 (fun _ => 0)) = p3
  · have eq2 : (f4_x0n p2 p3 z_a1 c_a1) = p3 := by unfold f4_x0n; simp only [if_pos hc17]
    have eq3 : (f4_x0c p2 p3 z_a1 c_a1) = (f5_o0 p2 (0 : Int32) p3 z_a1 c_a1 p3 (fun _ => 0)) := by unfold f4_x0c; simp only [if_pos hc17]
    obtain ⟨fs, hr, hrun, hended, hW, hsame⟩ := X12.leave (v := some (.ref b4)) (fun h => by rw [Bd.returns] at h; cases h)
    refine ⟨_, _, pre1 _ ?_, hrun, hended, _, _, rfl, ?_, ⟨_, rfl⟩, hW, hsame.mono (by decide) (by decide)⟩
    · show Steps p.tables e below (T12.setTop (mkF m 17 #[.val (.ref a1), .val (.int p2), .val (.int p3), .val (.ref b4), .val (.int (f5 p2 (0 : Int32) p3 z_a1 c_a1 p3 (fun _ => 0))), .unset] [(.int p3), (.int (f5 p2 (0 : Int32) p3 z_a1 c_a1 p3 (fun _ => 0)))])) _
      refine XS.icmpYes X12.here hx rfl (pc0 := 17) (pc' := 57) rfl (hb hby d4_17) rfl (teq hc17).1 (by decide) (by decide) ?_
      show Steps p.tables e below (T12.setTop (mkF m 57 #[.val (.ref a1), .val (.int p2), .val (.int p3), .val (.ref b4), .val (.int (f5 p2 (0 : Int32) p3 z_a1 c_a1 p3 (fun _ => 0))), .unset] [])) _
      refine XS.aloadN X12.here hx rfl (hb hby d4_57) rfl rfl ?_
      show Steps p.tables e below (T12.setTop (mkF m 58 #[.val (.ref a1), .val (.int p2), .val (.int p3), .val (.ref b4), .val (.int (f5 p2 (0 : Int32) p3 z_a1 c_a1 p3 (fun _ => 0))), .unset] [(.ref b4)])) _
      jvm_step X12.here [X12.here.top, hx, (hb hby d4_58), X12.method', Bd.returns, Value.isRef, FieldType.isReference]
      first | (intro acts; rw [hr _ acts rfl rfl rfl]) | rw [hr _ _ rfl rfl rfl]
      exact Steps.refl _
    · show Q4 Z a1 p2 p3 z_a1 c_a1 h0 n0 _ T12.heap _
      exact ⟨b4, rfl, N12, c18, sz_b4, (by rw [eq2, eq3]; exact c19)⟩
  · obtain ⟨_, _, ⟨T20, L20, k20, n20⟩, -, X20, ⟨Lc20, hQ20, l20, y20, z20⟩, st20⟩ := Jvm.LawKit.callS X12 hx (y := (⟨"java/lang/StringUTF16", "toBytes", "([CII)[B"⟩ : MethodName)) hown (mvT hZ (hw _ (List.mem_of_getElem? (i := 62) rfl))) (mvT hZ (hw _ (List.mem_of_getElem? (i := 63) rfl))) (mvT hZ (hw _ (List.mem_of_getElem? (i := 21) rfl))) (mvT hZ (hw _ (List.mem_of_getElem? (i := 64) rfl))) (by decide) (backOf (W := 0) (rm13 l Z a0 hw [] a1 p2 p3 z_a1 c_a1 T12.heap n0 c13 c14 c15 c16 c17 kz0 kz12 hz) hZ (hw _ (List.mem_of_getElem? (i := 64) rfl)) (hw _ (List.mem_of_getElem? (i := 21) rfl)) (by decide) (by decide)) (g := (mkF m 23 #[.val (.ref a1), .val (.int p2), .val (.int p3), .val (.ref b4), .val (.int (f5 p2 (0 : Int32) p3 z_a1 c_a1 p3 (fun _ => 0))), .unset] [(.int p3), (.int p2), (.ref a1)])) rfl (by rw [hml]; rfl) (argsL := [(.ref a1), (.int p2), (.int p3)]) (rest := []) (lenOf pd_4 rfl) rfl (by show 2 * 0 + _ ≤ _; exact Nat.le_of_eq rfl) (hb hby d4_23) (fun _ _ => ⟨rfl, rfl, (by decide : 1 + 1 ≤ _), (by decide : 12 + 24 ≤ _)⟩)
    dsimp only [Pt.U, Pt.locs, Pt.cells, Pt.slots] at X20 l20 y20 z20 st20 hQ20
    subst l20 y20 z20
    obtain ⟨r20_0, rfl, N20q, K20, zz20_0, va20_0⟩ := hQ20
    have N20 := Fr.app N12 N20q
    have ne_a1_r20_0 : a1 ≠ r20_0 := Nat.ne_of_lt (Nat.lt_of_lt_of_le c14.lt zz20_0)
    have ne_b4_r20_0 : b4 ≠ r20_0 := Nat.ne_of_lt (Nat.lt_of_lt_of_le c19.lt zz20_0)
    have g_r20_0 : n0 ≤ r20_0 := Nat.le_trans c13 zz20_0
    have sz_r20_0 : h0.size ≤ r20_0 := Nat.le_trans c18.1 zz20_0
    have c21 : n0 ≤ T20.heap.size := Nat.le_trans c13 K20.1
    have c22 : IAr Z T20.heap a1 .char z_a1 c_a1 := c14.keep K20 nin0
    have c23 : Sta Z T20.heap "java/lang/StringUTF16" "$assertionsDisabled" "Z" (.int (1 : Int32)) := own_staK0 c15 K20
    have c24 : Sta Z T20.heap "java/lang/StringUTF16" "HI_BYTE_SHIFT" "I" (.int (0 : Int32)) := own_staK0 c16 K20
    have c25 : Sta Z T20.heap "java/lang/StringUTF16" "LO_BYTE_SHIFT" "I" (.int (8 : Int32)) := own_staK0 c17 K20
    have c26 : Keep h0 T20.heap [] := c18.trans K20 all0
    have c27 : IAr Z T20.heap b4 .byte p3 (f5_o0 p2 (0 : Int32) p3 z_a1 c_a1 p3 (fun _ => 0)) := c19.keep K20 nin0
    obtain ⟨_, _, ⟨T28, L28, k28, n28⟩, -, X28, ⟨Lc28, hQ28, l28, y28, z28⟩, st28⟩ := Jvm.LawKit.callS X20 hx (y := (⟨"java/lang/StringUTF16", "getChar", "([BI)C"⟩ : MethodName)) hown (mvT hZ (hw _ (List.mem_of_getElem? (i := 78) rfl))) (mvT hZ (hw _ (List.mem_of_getElem? (i := 79) rfl))) (mvT hZ (hw _ (List.mem_of_getElem? (i := 21) rfl))) (mvT hZ (hw _ (List.mem_of_getElem? (i := 80) rfl))) (by decide) (backOf (W := 0) (rm17 l Z a0 hw [] r20_0 (f5 p2 (0 : Int32) p3 z_a1 c_a1 p3 (fun _ => 0)) (f13_x0n p2 p3 z_a1 c_a1) (f13_x0c p2 p3 z_a1 c_a1) T20.heap n0 c21 va20_0 c23 c24 c25 (own_k1 kz0 kz12 hz hc17)) hZ (hw _ (List.mem_of_getElem? (i := 80) rfl)) (hw _ (List.mem_of_getElem? (i := 21) rfl)) (by decide) (by decide)) (g := (mkF m 32 #[.val (.ref a1), .val (.int p2), .val (.int p3), .val (.ref b4), .val (.int (f5 p2 (0 : Int32) p3 z_a1 c_a1 p3 (fun _ => 0))), .val (.ref r20_0)] [(.int (f5 p2 (0 : Int32) p3 z_a1 c_a1 p3 (fun _ => 0))), (.ref r20_0)])) rfl (by rw [hml]; rfl) (argsL := [(.ref r20_0), (.int (f5 p2 (0 : Int32) p3 z_a1 c_a1 p3 (fun _ => 0)))]) (rest := []) (lenOf pd_5 rfl) rfl (by show 2 * 0 + _ ≤ _; exact Nat.le_of_eq rfl) (hb hby d4_32) (fun _ _ => ⟨rfl, rfl, (by decide : 2 + 0 ≤ _), (by decide : 36 + 0 ≤ _)⟩)
    dsimp only [Pt.U, Pt.locs, Pt.cells, Pt.slots] at X28 l28 y28 z28 st28 hQ28
    subst l28 y28 z28
    obtain ⟨rfl, N28q, e28⟩ := hQ28
    have N28 := Fr.app N20 N28q
    have eq4 : (f4_x0n p2 p3 z_a1 c_a1) = (f13_x0n p2 p3 z_a1 c_a1) := by unfold f4_x0n; simp only [if_neg hc17]
    have eq5 : (f4_x0c p2 p3 z_a1 c_a1) = (f13_x0c p2 p3 z_a1 c_a1) := by unfold f4_x0c; simp only [if_neg hc17]
    obtain ⟨fs, hr, hrun, hended, hW, hsame⟩ := X28.leave (v := some (.ref r20_0)) (fun h => by rw [Bd.returns] at h; cases h)
    refine ⟨_, _, pre1 _ ?_, hrun, hended, _, _, rfl, ?_, ⟨_, rfl⟩, hW, hsame.mono (by decide) (by decide)⟩
    · show Steps p.tables e below (T12.setTop (mkF m 17 #[.val (.ref a1), .val (.int p2), .val (.int p3), .val (.ref b4), .val (.int (f5 p2 (0 : Int32) p3 z_a1 c_a1 p3 (fun _ => 0))), .unset] [(.int p3), (.int (f5 p2 (0 : Int32) p3 z_a1 c_a1 p3 (fun _ => 0)))])) _
      refine XS.icmpNo X12.here hx rfl (hb hby d4_17) rfl (feq hc17).1 ?_
      show Steps p.tables e below (T12.setTop (mkF m 20 #[.val (.ref a1), .val (.int p2), .val (.int p3), .val (.ref b4), .val (.int (f5 p2 (0 : Int32) p3 z_a1 c_a1 p3 (fun _ => 0))), .unset] [])) _
      refine XS.aloadN X12.here hx rfl (hb hby d4_20) rfl rfl ?_
      show Steps p.tables e below (T12.setTop (mkF m 21 #[.val (.ref a1), .val (.int p2), .val (.int p3), .val (.ref b4), .val (.int (f5 p2 (0 : Int32) p3 z_a1 c_a1 p3 (fun _ => 0))), .unset] [(.ref a1)])) _
      refine XS.iloadN X12.here hx rfl (hb hby d4_21) rfl ?_
      show Steps p.tables e below (T12.setTop (mkF m 22 #[.val (.ref a1), .val (.int p2), .val (.int p3), .val (.ref b4), .val (.int (f5 p2 (0 : Int32) p3 z_a1 c_a1 p3 (fun _ => 0))), .unset] [(.int p2), (.ref a1)])) _
      refine XS.iloadN X12.here hx rfl (hb hby d4_22) rfl ?_
      show Steps p.tables e below (T12.setTop (mkF m 23 #[.val (.ref a1), .val (.int p2), .val (.int p3), .val (.ref b4), .val (.int (f5 p2 (0 : Int32) p3 z_a1 c_a1 p3 (fun _ => 0))), .unset] [(.int p3), (.int p2), (.ref a1)])) _
      refine st20 _ ?_
      show Steps p.tables e below (T20.setTop (mkF m 26 #[.val (.ref a1), .val (.int p2), .val (.int p3), .val (.ref b4), .val (.int (f5 p2 (0 : Int32) p3 z_a1 c_a1 p3 (fun _ => 0))), .unset] [(.ref r20_0)])) _
      refine XS.astore X20.here hx rfl (hb hby d4_26) rfl rfl (l' := #[.val (.ref a1), .val (.int p2), .val (.int p3), .val (.ref b4), .val (.int (f5 p2 (0 : Int32) p3 z_a1 c_a1 p3 (fun _ => 0))), .val (.ref r20_0)]) rfl ?_
      show Steps p.tables e below (T20.setTop (mkF m 28 #[.val (.ref a1), .val (.int p2), .val (.int p3), .val (.ref b4), .val (.int (f5 p2 (0 : Int32) p3 z_a1 c_a1 p3 (fun _ => 0))), .val (.ref r20_0)] [])) _
      refine XS.aload X20.here hx rfl (hb hby d4_28) rfl rfl ?_
      show Steps p.tables e below (T20.setTop (mkF m 30 #[.val (.ref a1), .val (.int p2), .val (.int p3), .val (.ref b4), .val (.int (f5 p2 (0 : Int32) p3 z_a1 c_a1 p3 (fun _ => 0))), .val (.ref r20_0)] [(.ref r20_0)])) _
      refine XS.iload X20.here hx rfl (hb hby d4_30) rfl ?_
      show Steps p.tables e below (T20.setTop (mkF m 32 #[.val (.ref a1), .val (.int p2), .val (.int p3), .val (.ref b4), .val (.int (f5 p2 (0 : Int32) p3 z_a1 c_a1 p3 (fun _ => 0))), .val (.ref r20_0)] [(.int (f5 p2 (0 : Int32) p3 z_a1 c_a1 p3 (fun _ => 0))), (.ref r20_0)])) _
      refine st28 _ ?_
      show Steps p.tables e below (T28.setTop (mkF m 35 #[.val (.ref a1), .val (.int p2), .val (.int p3), .val (.ref b4), .val (.int (f5 p2 (0 : Int32) p3 z_a1 c_a1 p3 (fun _ => 0))), .val (.ref r20_0)] [(.int (f17 (f5 p2 (0 : Int32) p3 z_a1 c_a1 p3 (fun _ => 0)) (f13_x0n p2 p3 z_a1 c_a1) (f13_x0c p2 p3 z_a1 c_a1)))])) _
      refine XS.sipush X28.here hx rfl (hb hby d4_35) ?_
      show Steps p.tables e below (T28.setTop (mkF m 38 #[.val (.ref a1), .val (.int p2), .val (.int p3), .val (.ref b4), .val (.int (f5 p2 (0 : Int32) p3 z_a1 c_a1 p3 (fun _ => 0))), .val (.ref r20_0)] [(.int (255 : Int32)), (.int (f17 (f5 p2 (0 : Int32) p3 z_a1 c_a1 p3 (fun _ => 0)) (f13_x0n p2 p3 z_a1 c_a1) (f13_x0c p2 p3 z_a1 c_a1)))])) _
      refine XS.icmpYes X28.here hx rfl (pc0 := 38) (pc' := 54) rfl (hb hby d4_38) rfl (tlt (own_k2 kz0 kz12 hz hch hc17 : (255 : Int32) < (f17 (f5 p2 (0 : Int32) p3 z_a1 c_a1 p3 (fun _ => 0)) (f13_x0n p2 p3 z_a1 c_a1) (f13_x0c p2 p3 z_a1 c_a1)))).2.2.1 (by decide) (by decide) ?_
      show Steps p.tables e below (T28.setTop (mkF m 54 #[.val (.ref a1), .val (.int p2), .val (.int p3), .val (.ref b4), .val (.int (f5 p2 (0 : Int32) p3 z_a1 c_a1 p3 (fun _ => 0))), .val (.ref r20_0)] [])) _
      refine XS.aload X28.here hx rfl (hb hby d4_54) rfl rfl ?_
      show Steps p.tables e below (T28.setTop (mkF m 56 #[.val (.ref a1), .val (.int p2), .val (.int p3), .val (.ref b4), .val (.int (f5 p2 (0 : Int32) p3 z_a1 c_a1 p3 (fun _ => 0))), .val (.ref r20_0)] [(.ref r20_0)])) _
      jvm_step X28.here [X28.here.top, hx, (hb hby d4_56), X28.method', Bd.returns, Value.isRef, FieldType.isReference]
      first | (intro acts; rw [hr _ acts rfl rfl rfl]) | rw [hr _ _ rfl rfl rfl]
      exact Steps.refl _
    · show Q4 Z a1 p2 p3 z_a1 c_a1 h0 n0 _ T28.heap _
      rw [e28]
      exact ⟨r20_0, rfl, N28, c26, sz_r20_0, (by rw [eq4, eq5]; exact va20_0)⟩
theorem d6_0 : decode jdk_52_method_15_code 0 = .ok (.iload_n 1, 1) := by decide +kernel
theorem d6_1 : decode jdk_52_method_15_code 1 = .ok (.aload_n 0, 1) := by decide +kernel
theorem d6_2 : decode jdk_52_method_15_code 2 = .ok (.arraylength, 1) := by decide +kernel
theorem d6_3 : decode jdk_52_method_15_code 3 = .ok (.isub, 1) := by decide +kernel
theorem d6_4 : decode jdk_52_method_15_code 4 = .ok (.bipush 31, 2) := by decide +kernel
theorem d6_6 : decode jdk_52_method_15_code 6 = .ok (.iushr, 1) := by decide +kernel
theorem d6_7 : decode jdk_52_method_15_code 7 = .ok (.i2b, 1) := by decide +kernel
theorem d6_8 : decode jdk_52_method_15_code 8 = .ok (.ireturn, 1) := by decide +kernel
theorem ef_6 (m : MethodId) (x0 : Addr) (x1 : Int32) : entryFrame m #[(.ref x0), (.int x1)] 2 = mkF m 0 #[.val (.ref x0), .val (.int x1)] [] := by first | (simp [entryFrame, mkF, argsToLocals, Value.category]; done) | rfl
def f6 (p2 : Int32) (z_a1 : Int32) (c_a1 : Nat → Int32) : Int32 := (nar .byte ((((p2 - z_a1).toUInt32 >>> ((31 : Int32) &&& 31).toUInt32).toInt32).toInt8.toInt32))
def Q6 (Z : State) (a1 : Addr) (p2 : Int32) (z_a1 : Int32) (c_a1 : Nat → Int32) (h0 : Heap) (n0 : Nat) (v : Option Value) (h : Heap) (L : List Loc) : Prop := v = some (.int (f6 p2 z_a1 c_a1)) ∧ Fr n0 L ∧ h = h0
set_option maxRecDepth 65536 in
set_option maxHeartbeats 40000000 in
theorem rm6 (l : Launch) (Z : State) (a0 : Array Value) (hw : ∀ d ∈ tables_1, d.before a0 Z = true) (ws : List Jvm.Cond) (a1 : Addr) (p2 : Int32) (z_a1 : Int32) (c_a1 : Nat → Int32) (h0 : Heap) (n0 : Nat) (Z0 : n0 ≤ h0.size) (V_a1 : IAr Z h0 a1 .byte z_a1 c_a1) :
    MetFree l (⟨"java/lang/StringUTF16", "coderFromArrayLen", "([BI)B"⟩ : MethodName) (head1 (Jvm.Cond.code (⟨"java/lang/StringUTF16", "coderFromArrayLen", "([BI)B"⟩ : MethodName) jdk_52_method_15_code 2 (some .byte) :: ws) ({ frames := 0, cells := 0, slots := 0, locals := 0 } : Room)) (fun a U => a = #[(.ref a1), (.int p2)] ∧ Z.Warmed39 U.vm ∧ U.heap = h0) (fun _ _ _ _ _ => True) (fun _ U o U' => ∃ v L, o = .returned v ∧ Q6 Z a1 p2 z_a1 c_a1 h0 n0 v U'.heap L ∧ FrameEnd U o U' L ({ frames := 0, cells := 0, slots := 0, locals := 0 } : Room).cells ({ frames := 0, cells := 0, slots := 0, locals := 0 } : Room).slots) := by
  refine MetFree.of_bodySF (plainFor_of_name pn_0) hisR ?_
  intro p e s m args below meth c s₁ Bd hml0 hP hK
  obtain ⟨rfl, hZ, hh⟩ := hP
  have hx := Bd.exec
  have hby := Bd.bytes
  have hml : c.maxLocals = 2 := hml0
  have hown : s.vm.findClass "java/lang/StringUTF16" = some m.cls := findClass_of_methodNamed Bd.named
  have hnm := (name_of_methodNamed Bd.named Bd.method).1
  have X0 : Stand p l e ({ frames := 0, cells := 0, slots := 0, locals := 0 } : Room) s m #[(.ref a1), (.int p2)] below meth c s₁ [] 0 0 := Stand.of_body Bd
  have e0 : s₁.heap = h0 := by rw [← hh, Bd.state]; rfl
  have N0 := Fr.nil n0
  have pre0 : ∀ t, Steps p.tables e below (s₁.setTop (mkF m 0 #[.val (.ref a1), .val (.int p2)] [])) t → Steps p.tables e below (s₁.setTop (entryFrame m #[(.ref a1), (.int p2)] 2)) t := fun t k => castTop (ef_6 m a1 p2) k
  have eq1 : (f6 p2 z_a1 c_a1) = (nar .byte ((((p2 - z_a1).toUInt32 >>> ((31 : Int32) &&& 31).toUInt32).toInt32).toInt8.toInt32)) := rfl
  obtain ⟨fs, hr, hrun, hended, hW, hsame⟩ := X0.leave (v := some (.int (nar .byte ((((p2 - z_a1).toUInt32 >>> ((31 : Int32) &&& 31).toUInt32).toInt32).toInt8.toInt32)))) (fun h => by rw [Bd.returns] at h; cases h)
  refine ⟨_, _, pre0 _ ?_, hrun, hended, _, _, rfl, ?_, ⟨_, rfl⟩, hW, hsame.mono (by decide) (by decide)⟩
  · show Steps p.tables e below (s₁.setTop (mkF m 0 #[.val (.ref a1), .val (.int p2)] [])) _
    refine XS.iloadN X0.here hx rfl (hb hby d6_0) rfl ?_
    show Steps p.tables e below (s₁.setTop (mkF m 1 #[.val (.ref a1), .val (.int p2)] [(.int p2)])) _
    refine XS.aloadN X0.here hx rfl (hb hby d6_1) rfl rfl ?_
    show Steps p.tables e below (s₁.setTop (mkF m 2 #[.val (.ref a1), .val (.int p2)] [(.ref a1), (.int p2)])) _
    refine alen X0 hx hZ e0 V_a1 (g := (mkF m 2 #[.val (.ref a1), .val (.int p2)] [(.ref a1), (.int p2)])) rfl rfl (hb hby d6_2) ?_
    show Steps p.tables e below (s₁.setTop (mkF m 3 #[.val (.ref a1), .val (.int p2)] [(.int z_a1), (.int p2)])) _
    refine XS.isub X0.here hx rfl (hb hby d6_3) rfl ?_
    show Steps p.tables e below (s₁.setTop (mkF m 4 #[.val (.ref a1), .val (.int p2)] [(.int (p2 - z_a1))])) _
    refine XS.bipush X0.here hx rfl (hb hby d6_4) ?_
    show Steps p.tables e below (s₁.setTop (mkF m 6 #[.val (.ref a1), .val (.int p2)] [(.int (31 : Int32)), (.int (p2 - z_a1))])) _
    refine XS.iushr X0.here hx rfl (hb hby d6_6) rfl ?_
    show Steps p.tables e below (s₁.setTop (mkF m 7 #[.val (.ref a1), .val (.int p2)] [(.int (((p2 - z_a1).toUInt32 >>> ((31 : Int32) &&& 31).toUInt32).toInt32))])) _
    refine XS.i2b X0.here hx rfl (hb hby d6_7) rfl ?_
    show Steps p.tables e below (s₁.setTop (mkF m 8 #[.val (.ref a1), .val (.int p2)] [(.int ((((p2 - z_a1).toUInt32 >>> ((31 : Int32) &&& 31).toUInt32).toInt32).toInt8.toInt32))])) _
    exact retN X0 hx (t := .byte) Bd.returns (by simp) (hb hby d6_8) hr
  · show Q6 Z a1 p2 z_a1 c_a1 h0 n0 _ s₁.heap _
    rw [e0]
    exact ⟨by rw [eq1], N0, rfl⟩
theorem pd_6 : parseMethodDescriptor "([BI)B" = some ⟨[(.array .byte), .int], some .byte⟩ := by decide +kernel
theorem pn_1 : plainName "java/lang/String" = true := by first | (simp [plainName, overriddenIn]; done) | decide +kernel
theorem d2_0 : decode jdk_42_method_149_code 0 = .ok (.aload_n 0, 1) := by decide +kernel
theorem d2_1 : decode jdk_42_method_149_code 1 = .ok (.invokespecial 1, 3) := by decide +kernel
theorem d2_4 : decode jdk_42_method_149_code 4 = .ok (.iload_n 3, 1) := by decide +kernel
theorem d2_5 : decode jdk_42_method_149_code 5 = .ok (.ifCond .ne 22, 3) := by decide +kernel
theorem d2_27 : decode jdk_42_method_149_code 27 = .ok (.getstatic 38, 3) := by decide +kernel
theorem d2_30 : decode jdk_42_method_149_code 30 = .ok (.ifCond .eq 28, 3) := by decide +kernel
theorem d2_33 : decode jdk_42_method_149_code 33 = .ok (.aload_n 1, 1) := by decide +kernel
theorem d2_34 : decode jdk_42_method_149_code 34 = .ok (.iload_n 2, 1) := by decide +kernel
theorem d2_35 : decode jdk_42_method_149_code 35 = .ok (.iload_n 3, 1) := by decide +kernel
theorem d2_36 : decode jdk_42_method_149_code 36 = .ok (.invokestatic 177, 3) := by decide +kernel
theorem d2_39 : decode jdk_42_method_149_code 39 = .ok (.astore 5, 2) := by decide +kernel
theorem d2_41 : decode jdk_42_method_149_code 41 = .ok (.aload_n 0, 1) := by decide +kernel
theorem d2_42 : decode jdk_42_method_149_code 42 = .ok (.aload 5, 2) := by decide +kernel
theorem d2_44 : decode jdk_42_method_149_code 44 = .ok (.iload_n 3, 1) := by decide +kernel
theorem d2_45 : decode jdk_42_method_149_code 45 = .ok (.invokestatic 47, 3) := by decide +kernel
theorem d2_48 : decode jdk_42_method_149_code 48 = .ok (.putfield 15, 3) := by decide +kernel
theorem d2_51 : decode jdk_42_method_149_code 51 = .ok (.aload_n 0, 1) := by decide +kernel
theorem d2_52 : decode jdk_42_method_149_code 52 = .ok (.aload 5, 2) := by decide +kernel
theorem d2_54 : decode jdk_42_method_149_code 54 = .ok (.putfield 9, 3) := by decide +kernel
theorem d2_57 : decode jdk_42_method_149_code 57 = .ok (.return_, 1) := by decide +kernel
theorem ef_2 (m : MethodId) (x0 : Addr) (x1 : Addr) (x2 : Int32) (x3 : Int32) : entryFrame m #[(.ref x0), (.ref x1), (.int x2), (.int x3), .null] 6 = mkF m 0 #[.val (.ref x0), .val (.ref x1), .val (.int x2), .val (.int x3), .val .null, .unset] [] := by first | (simp [entryFrame, mkF, argsToLocals, Value.category]; done) | rfl
def f2_o0 (p3 : Int32) (p4 : Int32) (w_coder_a1 : Int32) (z_a2 : Int32) (c_a2 : Nat → Int32) (w_CS : Int32) : Int32 := (nar .byte (f6 p4 (f4_x0n p3 p4 z_a2 c_a2) (f4_x0c p3 p4 z_a2 c_a2)))
def f2_x0n (p3 : Int32) (p4 : Int32) (w_coder_a1 : Int32) (z_a2 : Int32) (c_a2 : Nat → Int32) (w_CS : Int32) : Int32 := (f4_x0n p3 p4 z_a2 c_a2)
def f2_x0c (p3 : Int32) (p4 : Int32) (w_coder_a1 : Int32) (z_a2 : Int32) (c_a2 : Nat → Int32) (w_CS : Int32) : Nat → Int32 := (f4_x0c p3 p4 z_a2 c_a2)
def Q2 (Z : State) (a1 : Addr) (a2 : Addr) (p3 : Int32) (p4 : Int32) (w_coder_a1 : Int32) (z_a2 : Int32) (c_a2 : Nat → Int32) (w_CS : Int32) (h0 : Heap) (n0 : Nat) (v : Option Value) (h : Heap) (L : List Loc) : Prop := ∃ (r0 : Addr), v = none ∧ Fr n0 L ∧ Keep h0 h [a1] ∧ Fld Z h a1 "java/lang/String" "coder" "B" (.int (f2_o0 p3 p4 w_coder_a1 z_a2 c_a2 w_CS)) ∧ h0.size ≤ r0 ∧ IAr Z h r0 .byte (f2_x0n p3 p4 w_coder_a1 z_a2 c_a2 w_CS) (f2_x0c p3 p4 w_coder_a1 z_a2 c_a2 w_CS) ∧ Fld Z h a1 "java/lang/String" "value" "[B" (.ref r0)
set_option maxRecDepth 65536 in
set_option maxHeartbeats 40000000 in
theorem rm2 (l : Launch) (Z : State) (a0 : Array Value) (hw : ∀ d ∈ tables_1, d.before a0 Z = true) (ws : List Jvm.Cond) (a1 : Addr) (a2 : Addr) (p3 : Int32) (p4 : Int32) (w_coder_a1 : Int32) (z_a2 : Int32) (c_a2 : Nat → Int32) (w_CS : Int32) (h0 : Heap) (n0 : Nat) (Z0 : n0 ≤ h0.size) (E_a1 : Exa Z h0 a1 "java/lang/String") (g_a1 : n0 ≤ a1) (F_value_a1 : Fld Z h0 a1 "java/lang/String" "value" "[B" .null) (F_coder_a1 : Fld Z h0 a1 "java/lang/String" "coder" "B" (.int w_coder_a1)) (V_a2 : IAr Z h0 a2 .char z_a2 c_a2) (ne_a1_a2 : a1 ≠ a2) (S_COMPACT_STRINGS : Sta Z h0 "java/lang/String" "COMPACT_STRINGS" "Z" (.int w_CS)) (hcs : ¬ w_CS = 0) (S__assertionsDisabled : Sta Z h0 "java/lang/StringUTF16" "$assertionsDisabled" "Z" (.int (1 : Int32))) (S_HI_BYTE_SHIFT : Sta Z h0 "java/lang/StringUTF16" "HI_BYTE_SHIFT" "I" (.int (0 : Int32))) (S_LO_BYTE_SHIFT : Sta Z h0 "java/lang/StringUTF16" "LO_BYTE_SHIFT" "I" (.int (8 : Int32))) (kz0 : p3 = 0) (kz12 : p4 = 12) (hz : z_a2 = 12) (hch : ∀ i, 0 ≤ (c_a2 i).toInt ∧ (c_a2 i).toInt < 65536) :
    MetFree l (⟨"java/lang/String", "<init>", "([CIILjava/lang/Void;)V"⟩ : MethodName) (head1 (Jvm.Cond.code (⟨"java/lang/String", "<init>", "([CIILjava/lang/Void;)V"⟩ : MethodName) jdk_42_method_149_code 6 none :: ws) ({ frames := 4, cells := 2, slots := 36, locals := 57 } : Room)) (fun a U => a = #[(.ref a1), (.ref a2), (.int p3), (.int p4), .null] ∧ Z.Warmed39 U.vm ∧ U.heap = h0) (fun _ _ _ _ _ => True) (fun _ U o U' => ∃ v L, o = .returned v ∧ Q2 Z a1 a2 p3 p4 w_coder_a1 z_a2 c_a2 w_CS h0 n0 v U'.heap L ∧ FrameEnd U o U' L ({ frames := 4, cells := 2, slots := 36, locals := 57 } : Room).cells ({ frames := 4, cells := 2, slots := 36, locals := 57 } : Room).slots) := by
  refine MetFree.of_bodySF (plainFor_of_name pn_1) hisR ?_
  intro p e s m args below meth c s₁ Bd hml0 hP hK
  obtain ⟨rfl, hZ, hh⟩ := hP
  have hx := Bd.exec
  have hby := Bd.bytes
  have hml : c.maxLocals = 6 := hml0
  have hown : s.vm.findClass "java/lang/String" = some m.cls := findClass_of_methodNamed Bd.named
  have hnm := (name_of_methodNamed Bd.named Bd.method).1
  have X0 : Stand p l e ({ frames := 4, cells := 2, slots := 36, locals := 57 } : Room) s m #[(.ref a1), (.ref a2), (.int p3), (.int p4), .null] below meth c s₁ [] 0 0 := Stand.of_body Bd
  have e0 : s₁.heap = h0 := by rw [← hh, Bd.state]; rfl
  have N0 := Fr.nil n0
  have pre0 : ∀ t, Steps p.tables e below (s₁.setTop (mkF m 0 #[.val (.ref a1), .val (.ref a2), .val (.int p3), .val (.int p4), .val .null, .unset] [])) t → Steps p.tables e below (s₁.setTop (entryFrame m #[(.ref a1), (.ref a2), (.int p3), (.int p4), .null] 6)) t := fun t k => castTop (ef_2 m a1 a2 p3 p4) k
  obtain ⟨T6, X6, e6, st6⟩ := initO X0 hx hZ hown (hw _ (List.mem_of_getElem? (i := 15) rfl)) (hw _ (List.mem_of_getElem? (i := 16) rfl)) (hw _ (List.mem_of_getElem? (i := 17) rfl)) e0 (g := (mkF m 1 #[.val (.ref a1), .val (.ref a2), .val (.int p3), .val (.int p4), .val .null, .unset] [(.ref a1)])) rfl (by rw [hml]; rfl) rfl (hb hby d2_1) (by decide) (W := 0) (by show 2 * 0 + _ ≤ _; exact Nat.le_of_eq rfl) (by decide)
  obtain ⟨T7, X7, e7, st7⟩ := getS2 X6 hx hZ hown (host := "") (Or.inl (hw _ (List.mem_of_getElem? (i := 18) rfl))) Via.refl e6 S_COMPACT_STRINGS (g := (mkF m 27 #[.val (.ref a1), .val (.ref a2), .val (.int p3), .val (.int p4), .val .null, .unset] [])) rfl (hb hby d2_27)
  obtain ⟨_, _, ⟨T8, L8, k8, n8⟩, -, X8, ⟨Lc8, hQ8, l8, y8, z8⟩, st8⟩ := Jvm.LawKit.callS X7 hx (y := (⟨"java/lang/StringUTF16", "compress", "([CII)[B"⟩ : MethodName)) hown (mvT hZ (hw _ (List.mem_of_getElem? (i := 19) rfl))) (mvT hZ (hw _ (List.mem_of_getElem? (i := 20) rfl))) (mvT hZ (hw _ (List.mem_of_getElem? (i := 21) rfl))) (mvT hZ (hw _ (List.mem_of_getElem? (i := 22) rfl))) (by decide) (backOf (W := 0) (rm4 l Z a0 hw [] a2 p3 p4 z_a2 c_a2 h0 n0 Z0 V_a2 S__assertionsDisabled S_HI_BYTE_SHIFT S_LO_BYTE_SHIFT kz0 kz12 hz hch) hZ (hw _ (List.mem_of_getElem? (i := 22) rfl)) (hw _ (List.mem_of_getElem? (i := 21) rfl)) (by decide) (by decide)) (g := (mkF m 36 #[.val (.ref a1), .val (.ref a2), .val (.int p3), .val (.int p4), .val .null, .unset] [(.int p4), (.int p3), (.ref a2)])) rfl (by rw [hml]; rfl) (argsL := [(.ref a2), (.int p3), (.int p4)]) (rest := []) (lenOf pd_4 rfl) rfl (by show 2 * 0 + _ ≤ _; exact Nat.le_of_eq rfl) (hb hby d2_36) (fun _ _ => ⟨rfl, e7, (by decide : 0 + 2 ≤ _), (by decide : 0 + 36 ≤ _)⟩)
  dsimp only [Pt.U, Pt.locs, Pt.cells, Pt.slots] at X8 l8 y8 z8 st8 hQ8
  subst l8 y8 z8
  obtain ⟨r8_0, rfl, N8q, K8, zz8_0, va8_0⟩ := hQ8
  have N8 := Fr.app N0 N8q
  have ne_a1_r8_0 : a1 ≠ r8_0 := Nat.ne_of_lt (Nat.lt_of_lt_of_le E_a1.lt zz8_0)
  have ne_a2_r8_0 : a2 ≠ r8_0 := Nat.ne_of_lt (Nat.lt_of_lt_of_le V_a2.lt zz8_0)
  have g_r8_0 : n0 ≤ r8_0 := Nat.le_trans Z0 zz8_0
  have sz_r8_0 : h0.size ≤ r8_0 := Nat.le_trans (Keep.refl h0 [a1]).1 zz8_0
  have c9 : n0 ≤ T8.heap.size := Nat.le_trans Z0 K8.1
  have c10 : Exa Z T8.heap a1 "java/lang/String" := E_a1.keep K8
  have c11 : Fld Z T8.heap a1 "java/lang/String" "value" "[B" .null := F_value_a1.keep K8 nin0
  have c12 : Fld Z T8.heap a1 "java/lang/String" "coder" "B" (.int w_coder_a1) := F_coder_a1.keep K8 nin0
  have c13 : IAr Z T8.heap a2 .char z_a2 c_a2 := V_a2.keep K8 nin0
  have c14 : Sta Z T8.heap "java/lang/String" "COMPACT_STRINGS" "Z" (.int w_CS) := own_staK0 S_COMPACT_STRINGS K8
  have c15 : Sta Z T8.heap "java/lang/StringUTF16" "$assertionsDisabled" "Z" (.int (1 : Int32)) := own_staK0 S__assertionsDisabled K8
  have c16 : Sta Z T8.heap "java/lang/StringUTF16" "HI_BYTE_SHIFT" "I" (.int (0 : Int32)) := own_staK0 S_HI_BYTE_SHIFT K8
  have c17 : Sta Z T8.heap "java/lang/StringUTF16" "LO_BYTE_SHIFT" "I" (.int (8 : Int32)) := own_staK0 S_LO_BYTE_SHIFT K8
  have c18 : Keep h0 T8.heap [a1] := (Keep.refl h0 [a1]).trans K8 all0
  obtain ⟨_, _, ⟨T19, L19, k19, n19⟩, -, X19, ⟨Lc19, hQ19, l19, y19, z19⟩, st19⟩ := Jvm.LawKit.callS X8 hx (y := (⟨"java/lang/StringUTF16", "coderFromArrayLen", "([BI)B"⟩ : MethodName)) hown (mvT hZ (hw _ (List.mem_of_getElem? (i := 26) rfl))) (mvT hZ (hw _ (List.mem_of_getElem? (i := 27) rfl))) (mvT hZ (hw _ (List.mem_of_getElem? (i := 21) rfl))) (mvT hZ (hw _ (List.mem_of_getElem? (i := 28) rfl))) (by decide) (backOf (W := 1) (rm6 l Z a0 hw [] r8_0 p4 (f4_x0n p3 p4 z_a2 c_a2) (f4_x0c p3 p4 z_a2 c_a2) T8.heap n0 c9 va8_0) hZ (hw _ (List.mem_of_getElem? (i := 28) rfl)) (hw _ (List.mem_of_getElem? (i := 21) rfl)) (by decide) (by decide)) (g := (mkF m 45 #[.val (.ref a1), .val (.ref a2), .val (.int p3), .val (.int p4), .val .null, .val (.ref r8_0)] [(.int p4), (.ref r8_0), (.ref a1)])) rfl (by rw [hml]; rfl) (argsL := [(.ref r8_0), (.int p4)]) (rest := [(.ref a1)]) (lenOf pd_6 rfl) rfl (by show 2 * 0 + _ ≤ _; exact Nat.le_of_eq rfl) (hb hby d2_45) (fun _ _ => ⟨rfl, rfl, (by decide : 2 + 0 ≤ _), (by decide : 36 + 0 ≤ _)⟩)
  dsimp only [Pt.U, Pt.locs, Pt.cells, Pt.slots] at X19 l19 y19 z19 st19 hQ19
  subst l19 y19 z19
  obtain ⟨rfl, N19q, e19⟩ := hQ19
  have N19 := Fr.app N8 N19q
  obtain ⟨T20, h20, X20, e20, W20, st20⟩ := putFN X19 hx hZ hown (hw _ (List.mem_of_getElem? (i := 29) rfl)) Via.refl e19 c12 c10 (Or.inr ⟨(hw _ (List.mem_of_getElem? (i := 30) rfl)), rfl, hnm⟩) (hw _ (List.mem_of_getElem? (i := 6) rfl)) (ty := .byte) (v' := (.int (nar .byte (f6 p4 (f4_x0n p3 p4 z_a2 c_a2) (f4_x0c p3 p4 z_a2 c_a2))))) (by decide) rfl (fits_nar_byte _) (g := (mkF m 48 #[.val (.ref a1), .val (.ref a2), .val (.int p3), .val (.int p4), .val .null, .val (.ref r8_0)] [(.int (f6 p4 (f4_x0n p3 p4 z_a2 c_a2) (f4_x0c p3 p4 z_a2 c_a2))), (.ref a1)])) rfl rfl (hb hby d2_48)
  have N20 := Fr.snoc X20 N19 g_a1
  have c21 : n0 ≤ h20.size := Nat.le_trans c9 (Keep.of_wr W20).1
  have c22 : Exa Z h20 a1 "java/lang/String" := c10.wr W20
  have c23 : Fld Z h20 a1 "java/lang/String" "value" "[B" .null := c11.other W20 (Or.inr (slot_ne (Or.inr (hw _ (List.mem_of_getElem? (i := 32) rfl))) (Or.inr (hw _ (List.mem_of_getElem? (i := 30) rfl))) (by decide) (t := (.array .byte)) (t' := .byte) (by decide) (by decide)))
  have c24 : Fld Z h20 a1 "java/lang/String" "coder" "B" (.int (nar .byte (f6 p4 (f4_x0n p3 p4 z_a2 c_a2) (f4_x0c p3 p4 z_a2 c_a2)))) := c12.same W20
  have c25 : IAr Z h20 a2 .char z_a2 c_a2 := c13.other W20 (Ne.symm ne_a1_a2)
  have c26 : Sta Z h20 "java/lang/String" "COMPACT_STRINGS" "Z" (.int w_CS) := c14.wr W20
  have c27 : Sta Z h20 "java/lang/StringUTF16" "$assertionsDisabled" "Z" (.int (1 : Int32)) := c15.wr W20
  have c28 : Sta Z h20 "java/lang/StringUTF16" "HI_BYTE_SHIFT" "I" (.int (0 : Int32)) := c16.wr W20
  have c29 : Sta Z h20 "java/lang/StringUTF16" "LO_BYTE_SHIFT" "I" (.int (8 : Int32)) := c17.wr W20
  have c30 : Keep h0 h20 [a1] := c18.wr W20 (Or.inl (List.mem_of_getElem? (i := 0) rfl))
  have c31 : IAr Z h20 r8_0 .byte (f4_x0n p3 p4 z_a2 c_a2) (f4_x0c p3 p4 z_a2 c_a2) := va8_0.other W20 (Ne.symm ne_a1_r8_0)
  obtain ⟨T32, h32, X32, e32, W32, st32⟩ := putF X20 hx hZ hown (host := "") (Or.inl (hw _ (List.mem_of_getElem? (i := 31) rfl))) Via.refl e20 c23 c22 (Or.inr ⟨(hw _ (List.mem_of_getElem? (i := 32) rfl)), rfl, hnm⟩) (hw _ (List.mem_of_getElem? (i := 6) rfl)) (ty := (.array .byte)) (by decide) rfl rfl (g := (mkF m 54 #[.val (.ref a1), .val (.ref a2), .val (.int p3), .val (.int p4), .val .null, .val (.ref r8_0)] [(.ref r8_0), (.ref a1)])) rfl rfl (hb hby d2_54)
  have N32 := Fr.snoc X32 N20 g_a1
  have c33 : n0 ≤ h32.size := Nat.le_trans c21 (Keep.of_wr W32).1
  have c34 : Exa Z h32 a1 "java/lang/String" := c22.wr W32
  have c35 : Fld Z h32 a1 "java/lang/String" "value" "[B" (.ref r8_0) := c23.same W32
  have c36 : Fld Z h32 a1 "java/lang/String" "coder" "B" (.int (nar .byte (f6 p4 (f4_x0n p3 p4 z_a2 c_a2) (f4_x0c p3 p4 z_a2 c_a2)))) := c24.other W32 (Or.inr (slot_ne (Or.inr (hw _ (List.mem_of_getElem? (i := 30) rfl))) (Or.inr (hw _ (List.mem_of_getElem? (i := 32) rfl))) (by decide) (t := .byte) (t' := (.array .byte)) (by decide) (by decide)))
  have c37 : IAr Z h32 a2 .char z_a2 c_a2 := c25.other W32 (Ne.symm ne_a1_a2)
  have c38 : Sta Z h32 "java/lang/String" "COMPACT_STRINGS" "Z" (.int w_CS) := c26.wr W32
  have c39 : Sta Z h32 "java/lang/StringUTF16" "$assertionsDisabled" "Z" (.int (1 : Int32)) := c27.wr W32
  have c40 : Sta Z h32 "java/lang/StringUTF16" "HI_BYTE_SHIFT" "I" (.int (0 : Int32)) := c28.wr W32
  have c41 : Sta Z h32 "java/lang/StringUTF16" "LO_BYTE_SHIFT" "I" (.int (8 : Int32)) := c29.wr W32
  have c42 : Keep h0 h32 [a1] := c30.wr W32 (Or.inl (List.mem_of_getElem? (i := 0) rfl))
  have c43 : IAr Z h32 r8_0 .byte (f4_x0n p3 p4 z_a2 c_a2) (f4_x0c p3 p4 z_a2 c_a2) := c31.other W32 (Ne.symm ne_a1_r8_0)
  have eq1 : (f2_o0 p3 p4 w_coder_a1 z_a2 c_a2 w_CS) = (nar .byte (f6 p4 (f4_x0n p3 p4 z_a2 c_a2) (f4_x0c p3 p4 z_a2 c_a2))) := rfl
  have eq2 : (f2_x0n p3 p4 w_coder_a1 z_a2 c_a2 w_CS) = (f4_x0n p3 p4 z_a2 c_a2) := rfl
  have eq3 : (f2_x0c p3 p4 w_coder_a1 z_a2 c_a2 w_CS) = (f4_x0c p3 p4 z_a2 c_a2) := rfl
  obtain ⟨fs, hr, hrun, hended, hW, hsame⟩ := X32.leave (v := none) (fun _ => rfl)
  refine ⟨_, _, pre0 _ ?_, hrun, hended, _, _, rfl, ?_, ⟨_, rfl⟩, hW, hsame.mono (by decide) (by decide)⟩
  · show Steps p.tables e below (s₁.setTop (mkF m 0 #[.val (.ref a1), .val (.ref a2), .val (.int p3), .val (.int p4), .val .null, .unset] [])) _
    refine XS.aloadN X0.here hx rfl (hb hby d2_0) rfl rfl ?_
    show Steps p.tables e below (s₁.setTop (mkF m 1 #[.val (.ref a1), .val (.ref a2), .val (.int p3), .val (.int p4), .val .null, .unset] [(.ref a1)])) _
    refine st6 _ ?_
    show Steps p.tables e below (T6.setTop (mkF m 4 #[.val (.ref a1), .val (.ref a2), .val (.int p3), .val (.int p4), .val .null, .unset] [])) _
    refine XS.iloadN X6.here hx rfl (hb hby d2_4) rfl ?_
    show Steps p.tables e below (T6.setTop (mkF m 5 #[.val (.ref a1), .val (.ref a2), .val (.int p3), .val (.int p4), .val .null, .unset] [(.int p4)])) _
    refine XS.ifYes X6.here hx rfl (pc0 := 5) (pc' := 27) rfl (hb hby d2_5) rfl ((if0 _ _).trans (feq (by rw [kz12]; decide : ¬ (p4 = (0 : Int32)))).2) (by decide) (by decide) ?_
    show Steps p.tables e below (T6.setTop (mkF m 27 #[.val (.ref a1), .val (.ref a2), .val (.int p3), .val (.int p4), .val .null, .unset] [])) _
    refine st7 _ ?_
    show Steps p.tables e below (T7.setTop (mkF m 30 #[.val (.ref a1), .val (.ref a2), .val (.int p3), .val (.int p4), .val .null, .unset] [(.int w_CS)])) _
    refine XS.ifNo X7.here hx rfl (hb hby d2_30) rfl ((if0 _ _).trans (feq (hcs : ¬ (w_CS = (0 : Int32)))).1) ?_
    show Steps p.tables e below (T7.setTop (mkF m 33 #[.val (.ref a1), .val (.ref a2), .val (.int p3), .val (.int p4), .val .null, .unset] [])) _
    refine XS.aloadN X7.here hx rfl (hb hby d2_33) rfl rfl ?_
    show Steps p.tables e below (T7.setTop (mkF m 34 #[.val (.ref a1), .val (.ref a2), .val (.int p3), .val (.int p4), .val .null, .unset] [(.ref a2)])) _
    refine XS.iloadN X7.here hx rfl (hb hby d2_34) rfl ?_
    show Steps p.tables e below (T7.setTop (mkF m 35 #[.val (.ref a1), .val (.ref a2), .val (.int p3), .val (.int p4), .val .null, .unset] [(.int p3), (.ref a2)])) _
    refine XS.iloadN X7.here hx rfl (hb hby d2_35) rfl ?_
    show Steps p.tables e below (T7.setTop (mkF m 36 #[.val (.ref a1), .val (.ref a2), .val (.int p3), .val (.int p4), .val .null, .unset] [(.int p4), (.int p3), (.ref a2)])) _
    refine st8 _ ?_
    show Steps p.tables e below (T8.setTop (mkF m 39 #[.val (.ref a1), .val (.ref a2), .val (.int p3), .val (.int p4), .val .null, .unset] [(.ref r8_0)])) _
    refine XS.astore X8.here hx rfl (hb hby d2_39) rfl rfl (l' := #[.val (.ref a1), .val (.ref a2), .val (.int p3), .val (.int p4), .val .null, .val (.ref r8_0)]) rfl ?_
    show Steps p.tables e below (T8.setTop (mkF m 41 #[.val (.ref a1), .val (.ref a2), .val (.int p3), .val (.int p4), .val .null, .val (.ref r8_0)] [])) _
    refine XS.aloadN X8.here hx rfl (hb hby d2_41) rfl rfl ?_
    show Steps p.tables e below (T8.setTop (mkF m 42 #[.val (.ref a1), .val (.ref a2), .val (.int p3), .val (.int p4), .val .null, .val (.ref r8_0)] [(.ref a1)])) _
    refine XS.aload X8.here hx rfl (hb hby d2_42) rfl rfl ?_
    show Steps p.tables e below (T8.setTop (mkF m 44 #[.val (.ref a1), .val (.ref a2), .val (.int p3), .val (.int p4), .val .null, .val (.ref r8_0)] [(.ref r8_0), (.ref a1)])) _
    refine XS.iloadN X8.here hx rfl (hb hby d2_44) rfl ?_
    show Steps p.tables e below (T8.setTop (mkF m 45 #[.val (.ref a1), .val (.ref a2), .val (.int p3), .val (.int p4), .val .null, .val (.ref r8_0)] [(.int p4), (.ref r8_0), (.ref a1)])) _
    refine st19 _ ?_
    show Steps p.tables e below (T19.setTop (mkF m 48 #[.val (.ref a1), .val (.ref a2), .val (.int p3), .val (.int p4), .val .null, .val (.ref r8_0)] [(.int (f6 p4 (f4_x0n p3 p4 z_a2 c_a2) (f4_x0c p3 p4 z_a2 c_a2))), (.ref a1)])) _
    refine st20 _ ?_
    show Steps p.tables e below (T20.setTop (mkF m 51 #[.val (.ref a1), .val (.ref a2), .val (.int p3), .val (.int p4), .val .null, .val (.ref r8_0)] [])) _
    refine XS.aloadN X20.here hx rfl (hb hby d2_51) rfl rfl ?_
    show Steps p.tables e below (T20.setTop (mkF m 52 #[.val (.ref a1), .val (.ref a2), .val (.int p3), .val (.int p4), .val .null, .val (.ref r8_0)] [(.ref a1)])) _
    refine XS.aload X20.here hx rfl (hb hby d2_52) rfl rfl ?_
    show Steps p.tables e below (T20.setTop (mkF m 54 #[.val (.ref a1), .val (.ref a2), .val (.int p3), .val (.int p4), .val .null, .val (.ref r8_0)] [(.ref r8_0), (.ref a1)])) _
    refine st32 _ ?_
    show Steps p.tables e below (T32.setTop (mkF m 57 #[.val (.ref a1), .val (.ref a2), .val (.int p3), .val (.int p4), .val .null, .val (.ref r8_0)] [])) _
    exact X32.returnOut hx Bd.returns (hb hby d2_57) hr
  · show Q2 Z a1 a2 p3 p4 w_coder_a1 z_a2 c_a2 w_CS h0 n0 _ T32.heap _
    rw [e32]
    exact ⟨r8_0, rfl, N32, c42, (by rw [eq1]; exact c36), sz_r8_0, (by rw [eq2, eq3]; exact c43), c35⟩
theorem pd_7 : parseMethodDescriptor "([CIILjava/lang/Void;)V" = some ⟨[(.array .char), .int, .int, (.object "java/lang/Void")], none⟩ := by decide +kernel
theorem d1_0 : decode jdk_42_method_3_code 0 = .ok (.aload_n 0, 1) := by decide +kernel
theorem d1_1 : decode jdk_42_method_3_code 1 = .ok (.aload_n 1, 1) := by decide +kernel
theorem d1_2 : decode jdk_42_method_3_code 2 = .ok (.iconst 0, 1) := by decide +kernel
theorem d1_3 : decode jdk_42_method_3_code 3 = .ok (.aload_n 1, 1) := by decide +kernel
theorem d1_4 : decode jdk_42_method_3_code 4 = .ok (.arraylength, 1) := by decide +kernel
theorem d1_5 : decode jdk_42_method_3_code 5 = .ok (.aconst_null, 1) := by decide +kernel
theorem d1_6 : decode jdk_42_method_3_code 6 = .ok (.invokespecial 27, 3) := by decide +kernel
theorem d1_9 : decode jdk_42_method_3_code 9 = .ok (.return_, 1) := by decide +kernel
theorem ef_1 (m : MethodId) (x0 : Addr) (x1 : Addr) : entryFrame m #[(.ref x0), (.ref x1)] 2 = mkF m 0 #[.val (.ref x0), .val (.ref x1)] [] := by first | (simp [entryFrame, mkF, argsToLocals, Value.category]; done) | rfl
def f1_o0 (w_coder_a1 : Int32) (z_a2 : Int32) (c_a2 : Nat → Int32) (w_CS : Int32) : Int32 := (f2_o0 (0 : Int32) z_a2 w_coder_a1 z_a2 c_a2 w_CS)
def f1_x0n (w_coder_a1 : Int32) (z_a2 : Int32) (c_a2 : Nat → Int32) (w_CS : Int32) : Int32 := (f2_x0n (0 : Int32) z_a2 w_coder_a1 z_a2 c_a2 w_CS)
def f1_x0c (w_coder_a1 : Int32) (z_a2 : Int32) (c_a2 : Nat → Int32) (w_CS : Int32) : Nat → Int32 := (f2_x0c (0 : Int32) z_a2 w_coder_a1 z_a2 c_a2 w_CS)
def Q1 (Z : State) (a1 : Addr) (a2 : Addr) (w_coder_a1 : Int32) (z_a2 : Int32) (c_a2 : Nat → Int32) (w_CS : Int32) (h0 : Heap) (n0 : Nat) (v : Option Value) (h : Heap) (L : List Loc) : Prop := ∃ (r0 : Addr), v = none ∧ Fr n0 L ∧ Keep h0 h [a1] ∧ Fld Z h a1 "java/lang/String" "coder" "B" (.int (f1_o0 w_coder_a1 z_a2 c_a2 w_CS)) ∧ h0.size ≤ r0 ∧ IAr Z h r0 .byte (f1_x0n w_coder_a1 z_a2 c_a2 w_CS) (f1_x0c w_coder_a1 z_a2 c_a2 w_CS) ∧ Fld Z h a1 "java/lang/String" "value" "[B" (.ref r0)
set_option maxRecDepth 65536 in
set_option maxHeartbeats 40000000 in
theorem rm1 (l : Launch) (Z : State) (a0 : Array Value) (hw : ∀ d ∈ tables_1, d.before a0 Z = true) (ws : List Jvm.Cond) (a1 : Addr) (a2 : Addr) (w_coder_a1 : Int32) (z_a2 : Int32) (c_a2 : Nat → Int32) (w_CS : Int32) (h0 : Heap) (n0 : Nat) (Z0 : n0 ≤ h0.size) (E_a1 : Exa Z h0 a1 "java/lang/String") (g_a1 : n0 ≤ a1) (F_value_a1 : Fld Z h0 a1 "java/lang/String" "value" "[B" .null) (F_coder_a1 : Fld Z h0 a1 "java/lang/String" "coder" "B" (.int w_coder_a1)) (V_a2 : IAr Z h0 a2 .char z_a2 c_a2) (ne_a1_a2 : a1 ≠ a2) (S_COMPACT_STRINGS : Sta Z h0 "java/lang/String" "COMPACT_STRINGS" "Z" (.int w_CS)) (hcs : ¬ w_CS = 0) (S__assertionsDisabled : Sta Z h0 "java/lang/StringUTF16" "$assertionsDisabled" "Z" (.int (1 : Int32))) (S_HI_BYTE_SHIFT : Sta Z h0 "java/lang/StringUTF16" "HI_BYTE_SHIFT" "I" (.int (0 : Int32))) (S_LO_BYTE_SHIFT : Sta Z h0 "java/lang/StringUTF16" "LO_BYTE_SHIFT" "I" (.int (8 : Int32))) (hz : z_a2 = 12) (hch : ∀ i, 0 ≤ (c_a2 i).toInt ∧ (c_a2 i).toInt < 65536) :
    MetFree l (⟨"java/lang/String", "<init>", "([C)V"⟩ : MethodName) (head1 (Jvm.Cond.code (⟨"java/lang/String", "<init>", "([C)V"⟩ : MethodName) jdk_42_method_3_code 2 none :: ws) ({ frames := 5, cells := 2, slots := 36, locals := 74 } : Room)) (fun a U => a = #[(.ref a1), (.ref a2)] ∧ Z.Warmed39 U.vm ∧ U.heap = h0) (fun _ _ _ _ _ => True) (fun _ U o U' => ∃ v L, o = .returned v ∧ Q1 Z a1 a2 w_coder_a1 z_a2 c_a2 w_CS h0 n0 v U'.heap L ∧ FrameEnd U o U' L ({ frames := 5, cells := 2, slots := 36, locals := 74 } : Room).cells ({ frames := 5, cells := 2, slots := 36, locals := 74 } : Room).slots) := by
  refine MetFree.of_bodySF (plainFor_of_name pn_1) hisR ?_
  intro p e s m args below meth c s₁ Bd hml0 hP hK
  obtain ⟨rfl, hZ, hh⟩ := hP
  have hx := Bd.exec
  have hby := Bd.bytes
  have hml : c.maxLocals = 2 := hml0
  have hown : s.vm.findClass "java/lang/String" = some m.cls := findClass_of_methodNamed Bd.named
  have hnm := (name_of_methodNamed Bd.named Bd.method).1
  have X0 : Stand p l e ({ frames := 5, cells := 2, slots := 36, locals := 74 } : Room) s m #[(.ref a1), (.ref a2)] below meth c s₁ [] 0 0 := Stand.of_body Bd
  have e0 : s₁.heap = h0 := by rw [← hh, Bd.state]; rfl
  have N0 := Fr.nil n0
  have pre0 : ∀ t, Steps p.tables e below (s₁.setTop (mkF m 0 #[.val (.ref a1), .val (.ref a2)] [])) t → Steps p.tables e below (s₁.setTop (entryFrame m #[(.ref a1), (.ref a2)] 2)) t := fun t k => castTop (ef_1 m a1 a2) k
  obtain ⟨_, _, ⟨T3, L3, k3, n3⟩, -, X3, ⟨Lc3, hQ3, l3, y3, z3⟩, st3⟩ := X0.specialBack hx (y := (⟨"java/lang/String", "<init>", "([CIILjava/lang/Void;)V"⟩ : MethodName)) rfl hown (mvT hZ (hw _ (List.mem_of_getElem? (i := 11) rfl))) (mvT hZ (hw _ (List.mem_of_getElem? (i := 12) rfl))) (mvT hZ (hw _ (List.mem_of_getElem? (i := 14) rfl))) (by decide) (backOf (W := 0) (rm2 l Z a0 hw [] a1 a2 (0 : Int32) z_a2 w_coder_a1 z_a2 c_a2 w_CS h0 n0 Z0 E_a1 g_a1 F_value_a1 F_coder_a1 V_a2 ne_a1_a2 S_COMPACT_STRINGS hcs S__assertionsDisabled S_HI_BYTE_SHIFT S_LO_BYTE_SHIFT rfl hz hz hch) hZ (hw _ (List.mem_of_getElem? (i := 14) rfl)) (hw _ (List.mem_of_getElem? (i := 7) rfl)) (by decide) (by decide)) (g := (mkF m 6 #[.val (.ref a1), .val (.ref a2)] [.null, (.int z_a2), (.int (0 : Int32)), (.ref a2), (.ref a1)])) rfl (by rw [hml]; rfl) (Steps.refl _) (a := a1) (argsL := [(.ref a2), (.int (0 : Int32)), (.int z_a2), .null]) (rest := []) (lenOf pd_7 rfl) rfl (by show 2 * 0 + _ ≤ _; exact Nat.le_of_eq rfl) (hb hby d1_6) (fun _ _ => ⟨rfl, e0, (by decide : 0 + 2 ≤ _), (by decide : 0 + 36 ≤ _)⟩)
  dsimp only [Pt.U, Pt.locs, Pt.cells, Pt.slots] at X3 l3 y3 z3 st3 hQ3
  subst l3 y3 z3
  obtain ⟨r3_0, rfl, N3q, K3, o3_0, zz3_0, va3_0, vf3_0⟩ := hQ3
  have N3 := Fr.app N0 N3q
  have ne_a1_r3_0 : a1 ≠ r3_0 := Nat.ne_of_lt (Nat.lt_of_lt_of_le E_a1.lt zz3_0)
  have ne_a2_r3_0 : a2 ≠ r3_0 := Nat.ne_of_lt (Nat.lt_of_lt_of_le V_a2.lt zz3_0)
  have g_r3_0 : n0 ≤ r3_0 := Nat.le_trans Z0 zz3_0
  have sz_r3_0 : h0.size ≤ r3_0 := Nat.le_trans (Keep.refl h0 [a1]).1 zz3_0
  have c4 : n0 ≤ T3.heap.size := Nat.le_trans Z0 K3.1
  have c5 : Exa Z T3.heap a1 "java/lang/String" := E_a1.keep K3
  have c6 : Fld Z T3.heap a1 "java/lang/String" "value" "[B" (.ref r3_0) := vf3_0
  have c7 : Fld Z T3.heap a1 "java/lang/String" "coder" "B" (.int (f2_o0 (0 : Int32) z_a2 w_coder_a1 z_a2 c_a2 w_CS)) := o3_0
  have c8 : IAr Z T3.heap a2 .char z_a2 c_a2 := V_a2.keep K3 (ninS (Ne.symm ne_a1_a2) nin0)
  have c9 : Sta Z T3.heap "java/lang/String" "COMPACT_STRINGS" "Z" (.int w_CS) := own_staK S_COMPACT_STRINGS K3 (own_nsS (Exa.nostat E_a1) own_ns0)
  have c10 : Sta Z T3.heap "java/lang/StringUTF16" "$assertionsDisabled" "Z" (.int (1 : Int32)) := own_staK S__assertionsDisabled K3 (own_nsS (Exa.nostat E_a1) own_ns0)
  have c11 : Sta Z T3.heap "java/lang/StringUTF16" "HI_BYTE_SHIFT" "I" (.int (0 : Int32)) := own_staK S_HI_BYTE_SHIFT K3 (own_nsS (Exa.nostat E_a1) own_ns0)
  have c12 : Sta Z T3.heap "java/lang/StringUTF16" "LO_BYTE_SHIFT" "I" (.int (8 : Int32)) := own_staK S_LO_BYTE_SHIFT K3 (own_nsS (Exa.nostat E_a1) own_ns0)
  have c13 : Keep h0 T3.heap [a1] := (Keep.refl h0 [a1]).trans K3 (allS (Or.inl (List.mem_of_getElem? (i := 0) rfl)) all0)
  have eq1 : (f1_o0 w_coder_a1 z_a2 c_a2 w_CS) = (f2_o0 (0 : Int32) z_a2 w_coder_a1 z_a2 c_a2 w_CS) := rfl
  have eq2 : (f1_x0n w_coder_a1 z_a2 c_a2 w_CS) = (f2_x0n (0 : Int32) z_a2 w_coder_a1 z_a2 c_a2 w_CS) := rfl
  have eq3 : (f1_x0c w_coder_a1 z_a2 c_a2 w_CS) = (f2_x0c (0 : Int32) z_a2 w_coder_a1 z_a2 c_a2 w_CS) := rfl
  obtain ⟨fs, hr, hrun, hended, hW, hsame⟩ := X3.leave (v := none) (fun _ => rfl)
  refine ⟨_, _, pre0 _ ?_, hrun, hended, _, _, rfl, ?_, ⟨_, rfl⟩, hW, hsame.mono (by decide) (by decide)⟩
  · show Steps p.tables e below (s₁.setTop (mkF m 0 #[.val (.ref a1), .val (.ref a2)] [])) _
    refine XS.aloadN X0.here hx rfl (hb hby d1_0) rfl rfl ?_
    show Steps p.tables e below (s₁.setTop (mkF m 1 #[.val (.ref a1), .val (.ref a2)] [(.ref a1)])) _
    refine XS.aloadN X0.here hx rfl (hb hby d1_1) rfl rfl ?_
    show Steps p.tables e below (s₁.setTop (mkF m 2 #[.val (.ref a1), .val (.ref a2)] [(.ref a2), (.ref a1)])) _
    refine XS.iconst X0.here hx rfl (hb hby d1_2) ?_
    show Steps p.tables e below (s₁.setTop (mkF m 3 #[.val (.ref a1), .val (.ref a2)] [(.int (0 : Int32)), (.ref a2), (.ref a1)])) _
    refine XS.aloadN X0.here hx rfl (hb hby d1_3) rfl rfl ?_
    show Steps p.tables e below (s₁.setTop (mkF m 4 #[.val (.ref a1), .val (.ref a2)] [(.ref a2), (.int (0 : Int32)), (.ref a2), (.ref a1)])) _
    refine alen X0 hx hZ e0 V_a2 (g := (mkF m 4 #[.val (.ref a1), .val (.ref a2)] [(.ref a2), (.int (0 : Int32)), (.ref a2), (.ref a1)])) rfl rfl (hb hby d1_4) ?_
    show Steps p.tables e below (s₁.setTop (mkF m 5 #[.val (.ref a1), .val (.ref a2)] [(.int z_a2), (.int (0 : Int32)), (.ref a2), (.ref a1)])) _
    refine XS.aconstNull X0.here hx rfl (hb hby d1_5) ?_
    show Steps p.tables e below (s₁.setTop (mkF m 6 #[.val (.ref a1), .val (.ref a2)] [.null, (.int z_a2), (.int (0 : Int32)), (.ref a2), (.ref a1)])) _
    refine st3.trans ?_
    show Steps p.tables e below (T3.setTop (mkF m 9 #[.val (.ref a1), .val (.ref a2)] [])) _
    exact X3.returnOut hx Bd.returns (hb hby d1_9) hr
  · show Q1 Z a1 a2 w_coder_a1 z_a2 c_a2 w_CS h0 n0 _ T3.heap _
    exact ⟨r3_0, rfl, N3, c13, (by rw [eq1]; exact c7), sz_r3_0, (by rw [eq2, eq3]; exact va3_0), c6⟩
theorem d9_0 : decode jdk_42_method_154_code 0 = .ok (.getstatic 38, 3) := by decide +kernel
theorem d9_3 : decode jdk_42_method_154_code 3 = .ok (.ifCond .eq 14, 3) := by decide +kernel
theorem d9_6 : decode jdk_42_method_154_code 6 = .ok (.aload_n 0, 1) := by decide +kernel
theorem d9_7 : decode jdk_42_method_154_code 7 = .ok (.getfield 15, 3) := by decide +kernel
theorem d9_10 : decode jdk_42_method_154_code 10 = .ok (.ifCond .ne 7, 3) := by decide +kernel
theorem d9_13 : decode jdk_42_method_154_code 13 = .ok (.iconst 1, 1) := by decide +kernel
theorem d9_14 : decode jdk_42_method_154_code 14 = .ok (.goto 4, 3) := by decide +kernel
theorem d9_17 : decode jdk_42_method_154_code 17 = .ok (.iconst 0, 1) := by decide +kernel
theorem d9_18 : decode jdk_42_method_154_code 18 = .ok (.ireturn, 1) := by decide +kernel
theorem ef_9 (m : MethodId) (x0 : Addr) : entryFrame m #[(.ref x0)] 1 = mkF m 0 #[.val (.ref x0)] [] := by first | (simp [entryFrame, mkF, argsToLocals, Value.category]; done) | rfl
def f9 (w_CS : Int32) (w_coder_a1 : Int32) : Int32 := (if w_CS = (0 : Int32) then (0 : Int32) else (if w_coder_a1 = (0 : Int32) then (1 : Int32) else (0 : Int32)))
def Q9 (Z : State) (a1 : Addr) (w_CS : Int32) (w_coder_a1 : Int32) (h0 : Heap) (n0 : Nat) (v : Option Value) (h : Heap) (L : List Loc) : Prop := v = some (.int (f9 w_CS w_coder_a1)) ∧ Fr n0 L ∧ h = h0
set_option maxRecDepth 65536 in
set_option maxHeartbeats 40000000 in
theorem rm9 (l : Launch) (Z : State) (a0 : Array Value) (hw : ∀ d ∈ tables_1, d.before a0 Z = true) (ws : List Jvm.Cond) (a1 : Addr) (w_CS : Int32) (w_coder_a1 : Int32) (h0 : Heap) (n0 : Nat) (Z0 : n0 ≤ h0.size) (S_COMPACT_STRINGS : Sta Z h0 "java/lang/String" "COMPACT_STRINGS" "Z" (.int w_CS)) (F_coder_a1 : Fld Z h0 a1 "java/lang/String" "coder" "B" (.int w_coder_a1)) :
    MetFree l (⟨"java/lang/String", "isLatin1", "()Z"⟩ : MethodName) (head1 (Jvm.Cond.code (⟨"java/lang/String", "isLatin1", "()Z"⟩ : MethodName) jdk_42_method_154_code 1 (some .boolean) :: ws) ({ frames := 0, cells := 0, slots := 0, locals := 0 } : Room)) (fun a U => a = #[(.ref a1)] ∧ Z.Warmed39 U.vm ∧ U.heap = h0) (fun _ _ _ _ _ => True) (fun _ U o U' => ∃ v L, o = .returned v ∧ Q9 Z a1 w_CS w_coder_a1 h0 n0 v U'.heap L ∧ FrameEnd U o U' L ({ frames := 0, cells := 0, slots := 0, locals := 0 } : Room).cells ({ frames := 0, cells := 0, slots := 0, locals := 0 } : Room).slots) := by
  refine MetFree.of_bodySF (plainFor_of_name pn_1) hisR ?_
  intro p e s m args below meth c s₁ Bd hml0 hP hK
  obtain ⟨rfl, hZ, hh⟩ := hP
  have hx := Bd.exec
  have hby := Bd.bytes
  have hml : c.maxLocals = 1 := hml0
  have hown : s.vm.findClass "java/lang/String" = some m.cls := findClass_of_methodNamed Bd.named
  have hnm := (name_of_methodNamed Bd.named Bd.method).1
  have X0 : Stand p l e ({ frames := 0, cells := 0, slots := 0, locals := 0 } : Room) s m #[(.ref a1)] below meth c s₁ [] 0 0 := Stand.of_body Bd
  have e0 : s₁.heap = h0 := by rw [← hh, Bd.state]; rfl
  have N0 := Fr.nil n0
  have pre0 : ∀ t, Steps p.tables e below (s₁.setTop (mkF m 0 #[.val (.ref a1)] [])) t → Steps p.tables e below (s₁.setTop (entryFrame m #[(.ref a1)] 1)) t := fun t k => castTop (ef_9 m a1) k
  obtain ⟨T2, X2, e2, st2⟩ := getS2 X0 hx hZ hown (host := "") (Or.inl (hw _ (List.mem_of_getElem? (i := 18) rfl))) Via.refl e0 S_COMPACT_STRINGS (g := (mkF m 0 #[.val (.ref a1)] [])) rfl (hb hby d9_0)
  have pre1 : ∀ t, Steps p.tables e below (T2.setTop (mkF m 3 #[.val (.ref a1)] [(.int w_CS)])) t → Steps p.tables e below (s₁.setTop (entryFrame m #[(.ref a1)] 1)) t := by
    intro t k
    refine pre0 t ?_
    show Steps p.tables e below (s₁.setTop (mkF m 0 #[.val (.ref a1)] [])) _
    refine st2 _ ?_
    exact k
  by_cases hc3 : w_CS = (0 : Int32)
  · have eq2 : (f9 w_CS w_coder_a1) = (0 : Int32) := by unfold f9; simp only [if_pos hc3]
    obtain ⟨fs, hr, hrun, hended, hW, hsame⟩ := X2.leave (v := some (.int (0 : Int32))) (fun h => by rw [Bd.returns] at h; cases h)
    refine ⟨_, _, pre1 _ ?_, hrun, hended, _, _, rfl, ?_, ⟨_, rfl⟩, hW, hsame.mono (by decide) (by decide)⟩
    · show Steps p.tables e below (T2.setTop (mkF m 3 #[.val (.ref a1)] [(.int w_CS)])) _
      refine XS.ifYes X2.here hx rfl (pc0 := 3) (pc' := 17) rfl (hb hby d9_3) rfl ((if0 _ _).trans (teq hc3).1) (by decide) (by decide) ?_
      show Steps p.tables e below (T2.setTop (mkF m 17 #[.val (.ref a1)] [])) _
      refine XS.iconst X2.here hx rfl (hb hby d9_17) ?_
      show Steps p.tables e below (T2.setTop (mkF m 18 #[.val (.ref a1)] [(.int (0 : Int32))])) _
      exact retN X2 hx (t := .boolean) Bd.returns (by simp) (hb hby d9_18) hr
    · show Q9 Z a1 w_CS w_coder_a1 h0 n0 _ T2.heap _
      rw [e2]
      exact ⟨by rw [eq2], N0, rfl⟩
  · obtain ⟨T3, X3, e3, st3⟩ := getF X2 hx hZ hown (host := "") (Or.inl (hw _ (List.mem_of_getElem? (i := 29) rfl))) Via.refl e2 F_coder_a1 (g := (mkF m 7 #[.val (.ref a1)] [(.ref a1)])) rfl rfl (hb hby d9_7)
    have pre3 : ∀ t, Steps p.tables e below (T3.setTop (mkF m 10 #[.val (.ref a1)] [(.int w_coder_a1)])) t → Steps p.tables e below (s₁.setTop (entryFrame m #[(.ref a1)] 1)) t := by
      intro t k
      refine pre1 t ?_
      show Steps p.tables e below (T2.setTop (mkF m 3 #[.val (.ref a1)] [(.int w_CS)])) _
      refine XS.ifNo X2.here hx rfl (hb hby d9_3) rfl ((if0 _ _).trans (feq hc3).1) ?_
      show Steps p.tables e below (T2.setTop (mkF m 6 #[.val (.ref a1)] [])) _
      refine XS.aloadN X2.here hx rfl (hb hby d9_6) rfl rfl ?_
      show Steps p.tables e below (T2.setTop (mkF m 7 #[.val (.ref a1)] [(.ref a1)])) _
      refine st3 _ ?_
      exact k
    by_cases hc10 : w_coder_a1 = (0 : Int32)
    · have eq4 : (f9 w_CS w_coder_a1) = (1 : Int32) := by unfold f9; simp only [if_neg hc3, if_pos hc10]
      obtain ⟨fs, hr, hrun, hended, hW, hsame⟩ := X3.leave (v := some (.int (1 : Int32))) (fun h => by rw [Bd.returns] at h; cases h)
      refine ⟨_, _, pre3 _ ?_, hrun, hended, _, _, rfl, ?_, ⟨_, rfl⟩, hW, hsame.mono (by decide) (by decide)⟩
      · show Steps p.tables e below (T3.setTop (mkF m 10 #[.val (.ref a1)] [(.int w_coder_a1)])) _
        refine XS.ifNo X3.here hx rfl (hb hby d9_10) rfl ((if0 _ _).trans (teq hc10).2) ?_
        show Steps p.tables e below (T3.setTop (mkF m 13 #[.val (.ref a1)] [])) _
        refine XS.iconst X3.here hx rfl (hb hby d9_13) ?_
        show Steps p.tables e below (T3.setTop (mkF m 14 #[.val (.ref a1)] [(.int (1 : Int32))])) _
        refine XS.goto X3.here hx rfl (pc0 := 14) (pc' := 18) rfl (hb hby d9_14) (by decide) (by decide) ?_
        show Steps p.tables e below (T3.setTop (mkF m 18 #[.val (.ref a1)] [(.int (1 : Int32))])) _
        exact retN X3 hx (t := .boolean) Bd.returns (by simp) (hb hby d9_18) hr
      · show Q9 Z a1 w_CS w_coder_a1 h0 n0 _ T3.heap _
        rw [e3]
        exact ⟨by rw [eq4], N0, rfl⟩
    · have eq5 : (f9 w_CS w_coder_a1) = (0 : Int32) := by unfold f9; simp only [if_neg hc3, if_neg hc10]
      obtain ⟨fs, hr, hrun, hended, hW, hsame⟩ := X3.leave (v := some (.int (0 : Int32))) (fun h => by rw [Bd.returns] at h; cases h)
      refine ⟨_, _, pre3 _ ?_, hrun, hended, _, _, rfl, ?_, ⟨_, rfl⟩, hW, hsame.mono (by decide) (by decide)⟩
      · show Steps p.tables e below (T3.setTop (mkF m 10 #[.val (.ref a1)] [(.int w_coder_a1)])) _
        refine XS.ifYes X3.here hx rfl (pc0 := 10) (pc' := 17) rfl (hb hby d9_10) rfl ((if0 _ _).trans (feq hc10).2) (by decide) (by decide) ?_
        show Steps p.tables e below (T3.setTop (mkF m 17 #[.val (.ref a1)] [])) _
        refine XS.iconst X3.here hx rfl (hb hby d9_17) ?_
        show Steps p.tables e below (T3.setTop (mkF m 18 #[.val (.ref a1)] [(.int (0 : Int32))])) _
        exact retN X3 hx (t := .boolean) Bd.returns (by simp) (hb hby d9_18) hr
      · show Q9 Z a1 w_CS w_coder_a1 h0 n0 _ T3.heap _
        rw [e3]
        exact ⟨by rw [eq5], N0, rfl⟩
theorem pn_2 : plainName "jdk/internal/util/Preconditions" = true := by first | (simp [plainName, overriddenIn]; done) | decide +kernel
theorem d12_0 : decode jdk_41_method_11_code 0 = .ok (.iload_n 0, 1) := by decide +kernel
theorem d12_1 : decode jdk_41_method_11_code 1 = .ok (.ifCond .lt 8, 3) := by decide +kernel
theorem d12_4 : decode jdk_41_method_11_code 4 = .ok (.iload_n 0, 1) := by decide +kernel
theorem d12_5 : decode jdk_41_method_11_code 5 = .ok (.iload_n 1, 1) := by decide +kernel
theorem d12_6 : decode jdk_41_method_11_code 6 = .ok (.if_icmp .lt 10, 3) := by decide +kernel
theorem d12_16 : decode jdk_41_method_11_code 16 = .ok (.iload_n 0, 1) := by decide +kernel
theorem d12_17 : decode jdk_41_method_11_code 17 = .ok (.ireturn, 1) := by decide +kernel
theorem ef_12 (m : MethodId) (x0 : Int32) (x1 : Int32) (x2 : Value) (hc2 : x2.category = 1) : entryFrame m #[(.int x0), (.int x1), x2] 3 = mkF m 0 #[.val (.int x0), .val (.int x1), .val x2] [] := by cases x2 <;> simp [Value.category] at hc2 <;> first | (simp [entryFrame, mkF, argsToLocals, Value.category]; done) | rfl
def f12 (p1 : Int32) (p2 : Int32) : Int32 := p1
def Q12 (Z : State) (p1 : Int32) (p2 : Int32) (u3 : Value) (h0 : Heap) (n0 : Nat) (v : Option Value) (h : Heap) (L : List Loc) : Prop := v = some (.int (f12 p1 p2)) ∧ Fr n0 L ∧ h = h0
set_option maxRecDepth 65536 in
set_option maxHeartbeats 40000000 in
theorem rm12 (l : Launch) (Z : State) (a0 : Array Value) (hw : ∀ d ∈ tables_1, d.before a0 Z = true) (ws : List Jvm.Cond) (p1 : Int32) (p2 : Int32) (u3 : Value) (h0 : Heap) (n0 : Nat) (Z0 : n0 ≤ h0.size) (hcat : u3.category = 1) (hin : ¬ p1 < 0 ∧ p1 < p2) :
    MetFree l (⟨"jdk/internal/util/Preconditions", "checkIndex", "(IILjava/util/function/BiFunction;)I"⟩ : MethodName) (head1 (Jvm.Cond.code (⟨"jdk/internal/util/Preconditions", "checkIndex", "(IILjava/util/function/BiFunction;)I"⟩ : MethodName) jdk_41_method_11_code 3 (some .int) :: ws) ({ frames := 0, cells := 0, slots := 0, locals := 0 } : Room)) (fun a U => a = #[(.int p1), (.int p2), u3] ∧ Z.Warmed39 U.vm ∧ U.heap = h0) (fun _ _ _ _ _ => True) (fun _ U o U' => ∃ v L, o = .returned v ∧ Q12 Z p1 p2 u3 h0 n0 v U'.heap L ∧ FrameEnd U o U' L ({ frames := 0, cells := 0, slots := 0, locals := 0 } : Room).cells ({ frames := 0, cells := 0, slots := 0, locals := 0 } : Room).slots) := by
  refine MetFree.of_bodySF (plainFor_of_name pn_2) hisR ?_
  intro p e s m args below meth c s₁ Bd hml0 hP hK
  obtain ⟨rfl, hZ, hh⟩ := hP
  have hx := Bd.exec
  have hby := Bd.bytes
  have hml : c.maxLocals = 3 := hml0
  have hown : s.vm.findClass "jdk/internal/util/Preconditions" = some m.cls := findClass_of_methodNamed Bd.named
  have hnm := (name_of_methodNamed Bd.named Bd.method).1
  have X0 : Stand p l e ({ frames := 0, cells := 0, slots := 0, locals := 0 } : Room) s m #[(.int p1), (.int p2), u3] below meth c s₁ [] 0 0 := Stand.of_body Bd
  have e0 : s₁.heap = h0 := by rw [← hh, Bd.state]; rfl
  have N0 := Fr.nil n0
  have pre0 : ∀ t, Steps p.tables e below (s₁.setTop (mkF m 0 #[.val (.int p1), .val (.int p2), .val u3] [])) t → Steps p.tables e below (s₁.setTop (entryFrame m #[(.int p1), (.int p2), u3] 3)) t := fun t k => castTop (ef_12 m p1 p2 u3 hcat) k
  have eq1 : (f12 p1 p2) = p1 := rfl
  obtain ⟨fs, hr, hrun, hended, hW, hsame⟩ := X0.leave (v := some (.int p1)) (fun h => by rw [Bd.returns] at h; cases h)
  refine ⟨_, _, pre0 _ ?_, hrun, hended, _, _, rfl, ?_, ⟨_, rfl⟩, hW, hsame.mono (by decide) (by decide)⟩
  · show Steps p.tables e below (s₁.setTop (mkF m 0 #[.val (.int p1), .val (.int p2), .val u3] [])) _
    refine XS.iloadN X0.here hx rfl (hb hby d12_0) rfl ?_
    show Steps p.tables e below (s₁.setTop (mkF m 1 #[.val (.int p1), .val (.int p2), .val u3] [(.int p1)])) _
    refine XS.ifNo X0.here hx rfl (hb hby d12_1) rfl ((if0 _ _).trans (flt (hin.1 : ¬ (p1 < (0 : Int32)))).1) ?_
    show Steps p.tables e below (s₁.setTop (mkF m 4 #[.val (.int p1), .val (.int p2), .val u3] [])) _
    refine XS.iloadN X0.here hx rfl (hb hby d12_4) rfl ?_
    show Steps p.tables e below (s₁.setTop (mkF m 5 #[.val (.int p1), .val (.int p2), .val u3] [(.int p1)])) _
    refine XS.iloadN X0.here hx rfl (hb hby d12_5) rfl ?_
    show Steps p.tables e below (s₁.setTop (mkF m 6 #[.val (.int p1), .val (.int p2), .val u3] [(.int p2), (.int p1)])) _
    refine XS.icmpYes X0.here hx rfl (pc0 := 6) (pc' := 16) rfl (hb hby d12_6) rfl (tlt (hin.2 : p1 < p2)).1 (by decide) (by decide) ?_
    show Steps p.tables e below (s₁.setTop (mkF m 16 #[.val (.int p1), .val (.int p2), .val u3] [])) _
    refine XS.iloadN X0.here hx rfl (hb hby d12_16) rfl ?_
    show Steps p.tables e below (s₁.setTop (mkF m 17 #[.val (.int p1), .val (.int p2), .val u3] [(.int p1)])) _
    exact retI X0 hx Bd.returns (hb hby d12_17) hr
  · show Q12 Z p1 p2 u3 h0 n0 _ s₁.heap _
    rw [e0]
    exact ⟨by rw [eq1], N0, rfl⟩
theorem pd_8 : parseMethodDescriptor "(IILjava/util/function/BiFunction;)I" = some ⟨[.int, .int, (.object "java/util/function/BiFunction")], some .int⟩ := by decide +kernel
theorem d11_0 : decode jdk_42_method_155_code 0 = .ok (.iload_n 0, 1) := by decide +kernel
theorem d11_1 : decode jdk_42_method_155_code 1 = .ok (.iload_n 1, 1) := by decide +kernel
theorem d11_2 : decode jdk_42_method_155_code 2 = .ok (.getstatic 1053, 3) := by decide +kernel
theorem d11_5 : decode jdk_42_method_155_code 5 = .ok (.invokestatic 1059, 3) := by decide +kernel
theorem d11_8 : decode jdk_42_method_155_code 8 = .ok (.pop, 1) := by decide +kernel
theorem d11_9 : decode jdk_42_method_155_code 9 = .ok (.return_, 1) := by decide +kernel
theorem ef_11 (m : MethodId) (x0 : Int32) (x1 : Int32) : entryFrame m #[(.int x0), (.int x1)] 2 = mkF m 0 #[.val (.int x0), .val (.int x1)] [] := by first | (simp [entryFrame, mkF, argsToLocals, Value.category]; done) | rfl
def Q11 (Z : State) (p1 : Int32) (p2 : Int32) (w_SIO : Value) (h0 : Heap) (n0 : Nat) (v : Option Value) (h : Heap) (L : List Loc) : Prop := v = none ∧ Fr n0 L ∧ h = h0
set_option maxRecDepth 65536 in
set_option maxHeartbeats 40000000 in
theorem rm11 (l : Launch) (Z : State) (a0 : Array Value) (hw : ∀ d ∈ tables_1, d.before a0 Z = true) (ws : List Jvm.Cond) (p1 : Int32) (p2 : Int32) (w_SIO : Value) (h0 : Heap) (n0 : Nat) (Z0 : n0 ≤ h0.size) (S_SIOOBE_FORMATTER : Sta Z h0 "jdk/internal/util/Preconditions" "SIOOBE_FORMATTER" "Ljava/util/function/BiFunction;" w_SIO) (hcat : w_SIO.category = 1) (hin : ¬ p1 < 0 ∧ p1 < p2) :
    MetFree l (⟨"java/lang/String", "checkIndex", "(II)V"⟩ : MethodName) (head1 (Jvm.Cond.code (⟨"java/lang/String", "checkIndex", "(II)V"⟩ : MethodName) jdk_42_method_155_code 2 none :: ws) ({ frames := 1, cells := 0, slots := 0, locals := 14 } : Room)) (fun a U => a = #[(.int p1), (.int p2)] ∧ Z.Warmed39 U.vm ∧ U.heap = h0) (fun _ _ _ _ _ => True) (fun _ U o U' => ∃ v L, o = .returned v ∧ Q11 Z p1 p2 w_SIO h0 n0 v U'.heap L ∧ FrameEnd U o U' L ({ frames := 1, cells := 0, slots := 0, locals := 14 } : Room).cells ({ frames := 1, cells := 0, slots := 0, locals := 14 } : Room).slots) := by
  refine MetFree.of_bodySF (plainFor_of_name pn_1) hisR ?_
  intro p e s m args below meth c s₁ Bd hml0 hP hK
  obtain ⟨rfl, hZ, hh⟩ := hP
  have hx := Bd.exec
  have hby := Bd.bytes
  have hml : c.maxLocals = 2 := hml0
  have hown : s.vm.findClass "java/lang/String" = some m.cls := findClass_of_methodNamed Bd.named
  have hnm := (name_of_methodNamed Bd.named Bd.method).1
  have X0 : Stand p l e ({ frames := 1, cells := 0, slots := 0, locals := 14 } : Room) s m #[(.int p1), (.int p2)] below meth c s₁ [] 0 0 := Stand.of_body Bd
  have e0 : s₁.heap = h0 := by rw [← hh, Bd.state]; rfl
  have N0 := Fr.nil n0
  have pre0 : ∀ t, Steps p.tables e below (s₁.setTop (mkF m 0 #[.val (.int p1), .val (.int p2)] [])) t → Steps p.tables e below (s₁.setTop (entryFrame m #[(.int p1), (.int p2)] 2)) t := fun t k => castTop (ef_11 m p1 p2) k
  obtain ⟨T3, X3, e3, st3⟩ := getS2 X0 hx hZ hown (host := "") (Or.inl (hw _ (List.mem_of_getElem? (i := 54) rfl))) Via.refl e0 S_SIOOBE_FORMATTER (g := (mkF m 2 #[.val (.int p1), .val (.int p2)] [(.int p2), (.int p1)])) rfl (hb hby d11_2)
  obtain ⟨_, _, ⟨T4, L4, k4, n4⟩, -, X4, ⟨Lc4, hQ4, l4, y4, z4⟩, st4⟩ := Jvm.LawKit.callS X3 hx (y := (⟨"jdk/internal/util/Preconditions", "checkIndex", "(IILjava/util/function/BiFunction;)I"⟩ : MethodName)) hown (mvT hZ (hw _ (List.mem_of_getElem? (i := 56) rfl))) (mvT hZ (hw _ (List.mem_of_getElem? (i := 57) rfl))) (mvT hZ (hw _ (List.mem_of_getElem? (i := 55) rfl))) (mvT hZ (hw _ (List.mem_of_getElem? (i := 58) rfl))) (by decide) (backOf (W := 0) (rm12 l Z a0 hw [] p1 p2 w_SIO h0 n0 Z0 hcat hin) hZ (hw _ (List.mem_of_getElem? (i := 58) rfl)) (hw _ (List.mem_of_getElem? (i := 55) rfl)) (by decide) (by decide)) (g := (mkF m 5 #[.val (.int p1), .val (.int p2)] [w_SIO, (.int p2), (.int p1)])) rfl (by rw [hml]; rfl) (argsL := [(.int p1), (.int p2), w_SIO]) (rest := []) (lenOf pd_8 rfl) rfl (by show 2 * 0 + _ ≤ _; exact Nat.le_of_eq rfl) (hb hby d11_5) (fun _ _ => ⟨rfl, e3, (by decide : 0 + 0 ≤ _), (by decide : 0 + 0 ≤ _)⟩)
  dsimp only [Pt.U, Pt.locs, Pt.cells, Pt.slots] at X4 l4 y4 z4 st4 hQ4
  subst l4 y4 z4
  obtain ⟨rfl, N4q, e4⟩ := hQ4
  have N4 := Fr.app N0 N4q
  obtain ⟨fs, hr, hrun, hended, hW, hsame⟩ := X4.leave (v := none) (fun _ => rfl)
  refine ⟨_, _, pre0 _ ?_, hrun, hended, _, _, rfl, ?_, ⟨_, rfl⟩, hW, hsame.mono (by decide) (by decide)⟩
  · show Steps p.tables e below (s₁.setTop (mkF m 0 #[.val (.int p1), .val (.int p2)] [])) _
    refine XS.iloadN X0.here hx rfl (hb hby d11_0) rfl ?_
    show Steps p.tables e below (s₁.setTop (mkF m 1 #[.val (.int p1), .val (.int p2)] [(.int p1)])) _
    refine XS.iloadN X0.here hx rfl (hb hby d11_1) rfl ?_
    show Steps p.tables e below (s₁.setTop (mkF m 2 #[.val (.int p1), .val (.int p2)] [(.int p2), (.int p1)])) _
    refine st3 _ ?_
    show Steps p.tables e below (T3.setTop (mkF m 5 #[.val (.int p1), .val (.int p2)] [w_SIO, (.int p2), (.int p1)])) _
    refine st4 _ ?_
    show Steps p.tables e below (T4.setTop (mkF m 8 #[.val (.int p1), .val (.int p2)] [(.int (f12 p1 p2))])) _
    refine XS.pop X4.here hx rfl (hb hby d11_8) rfl rfl ?_
    show Steps p.tables e below (T4.setTop (mkF m 9 #[.val (.int p1), .val (.int p2)] [])) _
    exact X4.returnOut hx Bd.returns (hb hby d11_9) hr
  · show Q11 Z p1 p2 w_SIO h0 n0 _ T4.heap _
    rw [e4]
    exact ⟨rfl, N4, rfl⟩
theorem pd_9 : parseMethodDescriptor "(II)V" = some ⟨[.int, .int], none⟩ := by decide +kernel
theorem pn_3 : plainName "java/lang/StringLatin1" = true := by first | (simp [plainName, overriddenIn]; done) | decide +kernel
theorem d10_0 : decode jdk_43_method_2_code 0 = .ok (.iload_n 1, 1) := by decide +kernel
theorem d10_1 : decode jdk_43_method_2_code 1 = .ok (.aload_n 0, 1) := by decide +kernel
theorem d10_2 : decode jdk_43_method_2_code 2 = .ok (.arraylength, 1) := by decide +kernel
theorem d10_3 : decode jdk_43_method_2_code 3 = .ok (.invokestatic 9, 3) := by decide +kernel
theorem d10_6 : decode jdk_43_method_2_code 6 = .ok (.aload_n 0, 1) := by decide +kernel
theorem d10_7 : decode jdk_43_method_2_code 7 = .ok (.iload_n 1, 1) := by decide +kernel
theorem d10_8 : decode jdk_43_method_2_code 8 = .ok (.baload, 1) := by decide +kernel
theorem d10_9 : decode jdk_43_method_2_code 9 = .ok (.sipush 255, 3) := by decide +kernel
theorem d10_12 : decode jdk_43_method_2_code 12 = .ok (.iand, 1) := by decide +kernel
theorem d10_13 : decode jdk_43_method_2_code 13 = .ok (.i2c, 1) := by decide +kernel
theorem d10_14 : decode jdk_43_method_2_code 14 = .ok (.ireturn, 1) := by decide +kernel
theorem ef_10 (m : MethodId) (x0 : Addr) (x1 : Int32) : entryFrame m #[(.ref x0), (.int x1)] 2 = mkF m 0 #[.val (.ref x0), .val (.int x1)] [] := by first | (simp [entryFrame, mkF, argsToLocals, Value.category]; done) | rfl
def f10 (p2 : Int32) (z_a1 : Int32) (c_a1 : Nat → Int32) : Int32 := (nar .char (((c_a1 (p2).toNatClampNeg) &&& (255 : Int32)).toUInt32.toUInt16.toUInt32.toInt32))
def Q10 (Z : State) (a1 : Addr) (p2 : Int32) (z_a1 : Int32) (c_a1 : Nat → Int32) (w_SIO : Value) (h0 : Heap) (n0 : Nat) (v : Option Value) (h : Heap) (L : List Loc) : Prop := v = some (.int (f10 p2 z_a1 c_a1)) ∧ Fr n0 L ∧ h = h0
set_option maxRecDepth 65536 in
set_option maxHeartbeats 40000000 in
theorem rm10 (l : Launch) (Z : State) (a0 : Array Value) (hw : ∀ d ∈ tables_1, d.before a0 Z = true) (ws : List Jvm.Cond) (a1 : Addr) (p2 : Int32) (z_a1 : Int32) (c_a1 : Nat → Int32) (w_SIO : Value) (h0 : Heap) (n0 : Nat) (Z0 : n0 ≤ h0.size) (V_a1 : IAr Z h0 a1 .byte z_a1 c_a1) (S_SIOOBE_FORMATTER : Sta Z h0 "jdk/internal/util/Preconditions" "SIOOBE_FORMATTER" "Ljava/util/function/BiFunction;" w_SIO) (hcat : w_SIO.category = 1) (hin : ¬ p2 < 0 ∧ p2 < z_a1) :
    MetFree l (⟨"java/lang/StringLatin1", "charAt", "([BI)C"⟩ : MethodName) (head1 (Jvm.Cond.code (⟨"java/lang/StringLatin1", "charAt", "([BI)C"⟩ : MethodName) jdk_43_method_2_code 2 (some .char) :: ws) ({ frames := 2, cells := 0, slots := 0, locals := 27 } : Room)) (fun a U => a = #[(.ref a1), (.int p2)] ∧ Z.Warmed39 U.vm ∧ U.heap = h0) (fun _ _ _ _ _ => True) (fun _ U o U' => ∃ v L, o = .returned v ∧ Q10 Z a1 p2 z_a1 c_a1 w_SIO h0 n0 v U'.heap L ∧ FrameEnd U o U' L ({ frames := 2, cells := 0, slots := 0, locals := 27 } : Room).cells ({ frames := 2, cells := 0, slots := 0, locals := 27 } : Room).slots) := by
  refine MetFree.of_bodySF (plainFor_of_name pn_3) hisR ?_
  intro p e s m args below meth c s₁ Bd hml0 hP hK
  obtain ⟨rfl, hZ, hh⟩ := hP
  have hx := Bd.exec
  have hby := Bd.bytes
  have hml : c.maxLocals = 2 := hml0
  have hown : s.vm.findClass "java/lang/StringLatin1" = some m.cls := findClass_of_methodNamed Bd.named
  have hnm := (name_of_methodNamed Bd.named Bd.method).1
  have X0 : Stand p l e ({ frames := 2, cells := 0, slots := 0, locals := 27 } : Room) s m #[(.ref a1), (.int p2)] below meth c s₁ [] 0 0 := Stand.of_body Bd
  have e0 : s₁.heap = h0 := by rw [← hh, Bd.state]; rfl
  have N0 := Fr.nil n0
  have pre0 : ∀ t, Steps p.tables e below (s₁.setTop (mkF m 0 #[.val (.ref a1), .val (.int p2)] [])) t → Steps p.tables e below (s₁.setTop (entryFrame m #[(.ref a1), (.int p2)] 2)) t := fun t k => castTop (ef_10 m a1 p2) k
  obtain ⟨_, _, ⟨T3, L3, k3, n3⟩, -, X3, ⟨Lc3, hQ3, l3, y3, z3⟩, st3⟩ := Jvm.LawKit.callS X0 hx (y := (⟨"java/lang/String", "checkIndex", "(II)V"⟩ : MethodName)) hown (mvT hZ (hw _ (List.mem_of_getElem? (i := 51) rfl))) (mvT hZ (hw _ (List.mem_of_getElem? (i := 52) rfl))) (mvT hZ (hw _ (List.mem_of_getElem? (i := 7) rfl))) (mvT hZ (hw _ (List.mem_of_getElem? (i := 53) rfl))) (by decide) (backOf (W := 0) (rm11 l Z a0 hw [] p2 z_a1 w_SIO h0 n0 Z0 S_SIOOBE_FORMATTER hcat hin) hZ (hw _ (List.mem_of_getElem? (i := 53) rfl)) (hw _ (List.mem_of_getElem? (i := 7) rfl)) (by decide) (by decide)) (g := (mkF m 3 #[.val (.ref a1), .val (.int p2)] [(.int z_a1), (.int p2)])) rfl (by rw [hml]; rfl) (argsL := [(.int p2), (.int z_a1)]) (rest := []) (lenOf pd_9 rfl) rfl (by show 2 * 0 + _ ≤ _; exact Nat.le_of_eq rfl) (hb hby d10_3) (fun _ _ => ⟨rfl, e0, (by decide : 0 + 0 ≤ _), (by decide : 0 + 0 ≤ _)⟩)
  dsimp only [Pt.U, Pt.locs, Pt.cells, Pt.slots] at X3 l3 y3 z3 st3 hQ3
  subst l3 y3 z3
  obtain ⟨rfl, N3q, e3⟩ := hQ3
  have N3 := Fr.app N0 N3q
  have eq1 : (f10 p2 z_a1 c_a1) = (nar .char (((c_a1 (p2).toNatClampNeg) &&& (255 : Int32)).toUInt32.toUInt16.toUInt32.toInt32)) := rfl
  obtain ⟨fs, hr, hrun, hended, hW, hsame⟩ := X3.leave (v := some (.int (nar .char (((c_a1 (p2).toNatClampNeg) &&& (255 : Int32)).toUInt32.toUInt16.toUInt32.toInt32)))) (fun h => by rw [Bd.returns] at h; cases h)
  refine ⟨_, _, pre0 _ ?_, hrun, hended, _, _, rfl, ?_, ⟨_, rfl⟩, hW, hsame.mono (by decide) (by decide)⟩
  · show Steps p.tables e below (s₁.setTop (mkF m 0 #[.val (.ref a1), .val (.int p2)] [])) _
    refine XS.iloadN X0.here hx rfl (hb hby d10_0) rfl ?_
    show Steps p.tables e below (s₁.setTop (mkF m 1 #[.val (.ref a1), .val (.int p2)] [(.int p2)])) _
    refine XS.aloadN X0.here hx rfl (hb hby d10_1) rfl rfl ?_
    show Steps p.tables e below (s₁.setTop (mkF m 2 #[.val (.ref a1), .val (.int p2)] [(.ref a1), (.int p2)])) _
    refine alen X0 hx hZ e0 V_a1 (g := (mkF m 2 #[.val (.ref a1), .val (.int p2)] [(.ref a1), (.int p2)])) rfl rfl (hb hby d10_2) ?_
    show Steps p.tables e below (s₁.setTop (mkF m 3 #[.val (.ref a1), .val (.int p2)] [(.int z_a1), (.int p2)])) _
    refine st3 _ ?_
    show Steps p.tables e below (T3.setTop (mkF m 6 #[.val (.ref a1), .val (.int p2)] [])) _
    refine XS.aloadN X3.here hx rfl (hb hby d10_6) rfl rfl ?_
    show Steps p.tables e below (T3.setTop (mkF m 7 #[.val (.ref a1), .val (.int p2)] [(.ref a1)])) _
    refine XS.iloadN X3.here hx rfl (hb hby d10_7) rfl ?_
    show Steps p.tables e below (T3.setTop (mkF m 8 #[.val (.ref a1), .val (.int p2)] [(.int p2), (.ref a1)])) _
    refine ldB X3 hx hZ e3 V_a1 (j := p2) hin (g := (mkF m 8 #[.val (.ref a1), .val (.int p2)] [(.int p2), (.ref a1)])) rfl rfl (hb hby d10_8) ?_
    show Steps p.tables e below (T3.setTop (mkF m 9 #[.val (.ref a1), .val (.int p2)] [(.int (c_a1 (p2).toNatClampNeg))])) _
    refine XS.sipush X3.here hx rfl (hb hby d10_9) ?_
    show Steps p.tables e below (T3.setTop (mkF m 12 #[.val (.ref a1), .val (.int p2)] [(.int (255 : Int32)), (.int (c_a1 (p2).toNatClampNeg))])) _
    refine XS.iand X3.here hx rfl (hb hby d10_12) rfl ?_
    show Steps p.tables e below (T3.setTop (mkF m 13 #[.val (.ref a1), .val (.int p2)] [(.int ((c_a1 (p2).toNatClampNeg) &&& (255 : Int32)))])) _
    refine XS.i2c X3.here hx rfl (hb hby d10_13) rfl ?_
    show Steps p.tables e below (T3.setTop (mkF m 14 #[.val (.ref a1), .val (.int p2)] [(.int (((c_a1 (p2).toNatClampNeg) &&& (255 : Int32)).toUInt32.toUInt16.toUInt32.toInt32))])) _
    exact retN X3 hx (t := .char) Bd.returns (by simp) (hb hby d10_14) hr
  · show Q10 Z a1 p2 z_a1 c_a1 w_SIO h0 n0 _ T3.heap _
    rw [e3]
    exact ⟨by rw [eq1], N3, rfl⟩
theorem pd_10 : parseMethodDescriptor "([B)I" = some ⟨[(.array .byte)], some .int⟩ := by decide +kernel
theorem d19_0 : decode jdk_52_method_91_code 0 = .ok (.iload_n 0, 1) := by decide +kernel
theorem d19_1 : decode jdk_52_method_91_code 1 = .ok (.aload_n 1, 1) := by decide +kernel
theorem d19_2 : decode jdk_52_method_91_code 2 = .ok (.invokestatic 48, 3) := by decide +kernel
theorem d19_5 : decode jdk_52_method_91_code 5 = .ok (.invokestatic 414, 3) := by decide +kernel
theorem d19_8 : decode jdk_52_method_91_code 8 = .ok (.return_, 1) := by decide +kernel
theorem ef_19 (m : MethodId) (x0 : Int32) (x1 : Addr) : entryFrame m #[(.int x0), (.ref x1)] 2 = mkF m 0 #[.val (.int x0), .val (.ref x1)] [] := by first | (simp [entryFrame, mkF, argsToLocals, Value.category]; done) | rfl
def Q19 (Z : State) (p1 : Int32) (a2 : Addr) (z_a2 : Int32) (c_a2 : Nat → Int32) (w_SIO : Value) (h0 : Heap) (n0 : Nat) (v : Option Value) (h : Heap) (L : List Loc) : Prop := v = none ∧ Fr n0 L ∧ h = h0
set_option maxRecDepth 65536 in
set_option maxHeartbeats 40000000 in
theorem rm19 (l : Launch) (Z : State) (a0 : Array Value) (hw : ∀ d ∈ tables_1, d.before a0 Z = true) (ws : List Jvm.Cond) (p1 : Int32) (a2 : Addr) (z_a2 : Int32) (c_a2 : Nat → Int32) (w_SIO : Value) (h0 : Heap) (n0 : Nat) (Z0 : n0 ≤ h0.size) (V_a2 : IAr Z h0 a2 .byte z_a2 c_a2) (S_SIOOBE_FORMATTER : Sta Z h0 "jdk/internal/util/Preconditions" "SIOOBE_FORMATTER" "Ljava/util/function/BiFunction;" w_SIO) (hcat : w_SIO.category = 1) (hin : ¬ p1 < 0 ∧ p1 < f20 z_a2 c_a2) :
    MetFree l (⟨"java/lang/StringUTF16", "checkIndex", "(I[B)V"⟩ : MethodName) (head1 (Jvm.Cond.code (⟨"java/lang/StringUTF16", "checkIndex", "(I[B)V"⟩ : MethodName) jdk_52_method_91_code 2 none :: ws) ({ frames := 2, cells := 0, slots := 0, locals := 27 } : Room)) (fun a U => a = #[(.int p1), (.ref a2)] ∧ Z.Warmed39 U.vm ∧ U.heap = h0) (fun _ _ _ _ _ => True) (fun _ U o U' => ∃ v L, o = .returned v ∧ Q19 Z p1 a2 z_a2 c_a2 w_SIO h0 n0 v U'.heap L ∧ FrameEnd U o U' L ({ frames := 2, cells := 0, slots := 0, locals := 27 } : Room).cells ({ frames := 2, cells := 0, slots := 0, locals := 27 } : Room).slots) := by
  refine MetFree.of_bodySF (plainFor_of_name pn_0) hisR ?_
  intro p e s m args below meth c s₁ Bd hml0 hP hK
  obtain ⟨rfl, hZ, hh⟩ := hP
  have hx := Bd.exec
  have hby := Bd.bytes
  have hml : c.maxLocals = 2 := hml0
  have hown : s.vm.findClass "java/lang/StringUTF16" = some m.cls := findClass_of_methodNamed Bd.named
  have hnm := (name_of_methodNamed Bd.named Bd.method).1
  have X0 : Stand p l e ({ frames := 2, cells := 0, slots := 0, locals := 27 } : Room) s m #[(.int p1), (.ref a2)] below meth c s₁ [] 0 0 := Stand.of_body Bd
  have e0 : s₁.heap = h0 := by rw [← hh, Bd.state]; rfl
  have N0 := Fr.nil n0
  have pre0 : ∀ t, Steps p.tables e below (s₁.setTop (mkF m 0 #[.val (.int p1), .val (.ref a2)] [])) t → Steps p.tables e below (s₁.setTop (entryFrame m #[(.int p1), (.ref a2)] 2)) t := fun t k => castTop (ef_19 m p1 a2) k
  obtain ⟨_, _, ⟨T3, L3, k3, n3⟩, -, X3, ⟨Lc3, hQ3, l3, y3, z3⟩, st3⟩ := Jvm.LawKit.callS X0 hx (y := (⟨"java/lang/StringUTF16", "length", "([B)I"⟩ : MethodName)) hown (mvT hZ (hw _ (List.mem_of_getElem? (i := 87) rfl))) (mvT hZ (hw _ (List.mem_of_getElem? (i := 88) rfl))) (mvT hZ (hw _ (List.mem_of_getElem? (i := 21) rfl))) (mvT hZ (hw _ (List.mem_of_getElem? (i := 89) rfl))) (by decide) (backOf (W := 1) (rm20 l Z a0 hw [] a2 z_a2 c_a2 h0 n0 Z0 V_a2) hZ (hw _ (List.mem_of_getElem? (i := 89) rfl)) (hw _ (List.mem_of_getElem? (i := 21) rfl)) (by decide) (by decide)) (g := (mkF m 2 #[.val (.int p1), .val (.ref a2)] [(.ref a2), (.int p1)])) rfl (by rw [hml]; rfl) (argsL := [(.ref a2)]) (rest := [(.int p1)]) (lenOf pd_10 rfl) rfl (by show 2 * 0 + _ ≤ _; exact Nat.le_of_eq rfl) (hb hby d19_2) (fun _ _ => ⟨rfl, e0, (by decide : 0 + 0 ≤ _), (by decide : 0 + 0 ≤ _)⟩)
  dsimp only [Pt.U, Pt.locs, Pt.cells, Pt.slots] at X3 l3 y3 z3 st3 hQ3
  subst l3 y3 z3
  obtain ⟨rfl, N3q, e3⟩ := hQ3
  have N3 := Fr.app N0 N3q
  obtain ⟨_, _, ⟨T4, L4, k4, n4⟩, -, X4, ⟨Lc4, hQ4, l4, y4, z4⟩, st4⟩ := Jvm.LawKit.callS X3 hx (y := (⟨"java/lang/String", "checkIndex", "(II)V"⟩ : MethodName)) hown (mvT hZ (hw _ (List.mem_of_getElem? (i := 90) rfl))) (mvT hZ (hw _ (List.mem_of_getElem? (i := 52) rfl))) (mvT hZ (hw _ (List.mem_of_getElem? (i := 7) rfl))) (mvT hZ (hw _ (List.mem_of_getElem? (i := 53) rfl))) (by decide) (backOf (W := 0) (rm11 l Z a0 hw [] p1 (f20 z_a2 c_a2) w_SIO h0 n0 Z0 S_SIOOBE_FORMATTER hcat hin) hZ (hw _ (List.mem_of_getElem? (i := 53) rfl)) (hw _ (List.mem_of_getElem? (i := 7) rfl)) (by decide) (by decide)) (g := (mkF m 5 #[.val (.int p1), .val (.ref a2)] [(.int (f20 z_a2 c_a2)), (.int p1)])) rfl (by rw [hml]; rfl) (argsL := [(.int p1), (.int (f20 z_a2 c_a2))]) (rest := []) (lenOf pd_9 rfl) rfl (by show 2 * 0 + _ ≤ _; exact Nat.le_of_eq rfl) (hb hby d19_5) (fun _ _ => ⟨rfl, e3, (by decide : 0 + 0 ≤ _), (by decide : 0 + 0 ≤ _)⟩)
  dsimp only [Pt.U, Pt.locs, Pt.cells, Pt.slots] at X4 l4 y4 z4 st4 hQ4
  subst l4 y4 z4
  obtain ⟨rfl, N4q, e4⟩ := hQ4
  have N4 := Fr.app N3 N4q
  obtain ⟨fs, hr, hrun, hended, hW, hsame⟩ := X4.leave (v := none) (fun _ => rfl)
  refine ⟨_, _, pre0 _ ?_, hrun, hended, _, _, rfl, ?_, ⟨_, rfl⟩, hW, hsame.mono (by decide) (by decide)⟩
  · show Steps p.tables e below (s₁.setTop (mkF m 0 #[.val (.int p1), .val (.ref a2)] [])) _
    refine XS.iloadN X0.here hx rfl (hb hby d19_0) rfl ?_
    show Steps p.tables e below (s₁.setTop (mkF m 1 #[.val (.int p1), .val (.ref a2)] [(.int p1)])) _
    refine XS.aloadN X0.here hx rfl (hb hby d19_1) rfl rfl ?_
    show Steps p.tables e below (s₁.setTop (mkF m 2 #[.val (.int p1), .val (.ref a2)] [(.ref a2), (.int p1)])) _
    refine st3 _ ?_
    show Steps p.tables e below (T3.setTop (mkF m 5 #[.val (.int p1), .val (.ref a2)] [(.int (f20 z_a2 c_a2)), (.int p1)])) _
    refine st4 _ ?_
    show Steps p.tables e below (T4.setTop (mkF m 8 #[.val (.int p1), .val (.ref a2)] [])) _
    exact X4.returnOut hx Bd.returns (hb hby d19_8) hr
  · show Q19 Z p1 a2 z_a2 c_a2 w_SIO h0 n0 _ T4.heap _
    rw [e4]
    exact ⟨rfl, N4, rfl⟩
theorem pd_11 : parseMethodDescriptor "(I[B)V" = some ⟨[.int, (.array .byte)], none⟩ := by decide +kernel
theorem d18_0 : decode jdk_52_method_83_code 0 = .ok (.iload_n 1, 1) := by decide +kernel
theorem d18_1 : decode jdk_52_method_83_code 1 = .ok (.aload_n 0, 1) := by decide +kernel
theorem d18_2 : decode jdk_52_method_83_code 2 = .ok (.invokestatic 67, 3) := by decide +kernel
theorem d18_5 : decode jdk_52_method_83_code 5 = .ok (.aload_n 0, 1) := by decide +kernel
theorem d18_6 : decode jdk_52_method_83_code 6 = .ok (.iload_n 1, 1) := by decide +kernel
theorem d18_7 : decode jdk_52_method_83_code 7 = .ok (.invokestatic 71, 3) := by decide +kernel
theorem d18_10 : decode jdk_52_method_83_code 10 = .ok (.ireturn, 1) := by decide +kernel
theorem ef_18 (m : MethodId) (x0 : Addr) (x1 : Int32) : entryFrame m #[(.ref x0), (.int x1)] 2 = mkF m 0 #[.val (.ref x0), .val (.int x1)] [] := by first | (simp [entryFrame, mkF, argsToLocals, Value.category]; done) | rfl
theorem own_q0 {p2 z : Int32} {c : Nat → Int32} (h : 0 ≤ p2.toInt ∧ p2.toInt < 12 ∧ z = 24) : ¬ p2 < 0 ∧ p2 < f20 z c := by
  obtain ⟨h0, h1, rfl⟩ := h
  rw [show f20 24 c = 12 from (by show (24 : Int32) >>> ((1 : Int32) &&& 31) = 12; decide), Int32.lt_iff_toInt_lt, Int32.lt_iff_toInt_lt, own_e0, own_e12]
  omega
def f18 (p2 : Int32) (z_a1 : Int32) (c_a1 : Nat → Int32) : Int32 := (nar .char (f17 p2 z_a1 c_a1))
def Q18 (Z : State) (a1 : Addr) (p2 : Int32) (z_a1 : Int32) (c_a1 : Nat → Int32) (w_SIO : Value) (h0 : Heap) (n0 : Nat) (v : Option Value) (h : Heap) (L : List Loc) : Prop := v = some (.int (f18 p2 z_a1 c_a1)) ∧ Fr n0 L ∧ h = h0
set_option maxRecDepth 65536 in
set_option maxHeartbeats 40000000 in
theorem rm18 (l : Launch) (Z : State) (a0 : Array Value) (hw : ∀ d ∈ tables_1, d.before a0 Z = true) (ws : List Jvm.Cond) (a1 : Addr) (p2 : Int32) (z_a1 : Int32) (c_a1 : Nat → Int32) (w_SIO : Value) (h0 : Heap) (n0 : Nat) (Z0 : n0 ≤ h0.size) (V_a1 : IAr Z h0 a1 .byte z_a1 c_a1) (S_SIOOBE_FORMATTER : Sta Z h0 "jdk/internal/util/Preconditions" "SIOOBE_FORMATTER" "Ljava/util/function/BiFunction;" w_SIO) (hcat : w_SIO.category = 1) (S__assertionsDisabled : Sta Z h0 "java/lang/StringUTF16" "$assertionsDisabled" "Z" (.int (1 : Int32))) (S_HI_BYTE_SHIFT : Sta Z h0 "java/lang/StringUTF16" "HI_BYTE_SHIFT" "I" (.int (0 : Int32))) (S_LO_BYTE_SHIFT : Sta Z h0 "java/lang/StringUTF16" "LO_BYTE_SHIFT" "I" (.int (8 : Int32))) (hg : 0 ≤ p2.toInt ∧ p2.toInt < 12 ∧ z_a1 = 24) :
    MetFree l (⟨"java/lang/StringUTF16", "charAt", "([BI)C"⟩ : MethodName) (head1 (Jvm.Cond.code (⟨"java/lang/StringUTF16", "charAt", "([BI)C"⟩ : MethodName) jdk_52_method_83_code 2 (some .char) :: ws) ({ frames := 3, cells := 0, slots := 0, locals := 40 } : Room)) (fun a U => a = #[(.ref a1), (.int p2)] ∧ Z.Warmed39 U.vm ∧ U.heap = h0) (fun _ _ _ _ _ => True) (fun _ U o U' => ∃ v L, o = .returned v ∧ Q18 Z a1 p2 z_a1 c_a1 w_SIO h0 n0 v U'.heap L ∧ FrameEnd U o U' L ({ frames := 3, cells := 0, slots := 0, locals := 40 } : Room).cells ({ frames := 3, cells := 0, slots := 0, locals := 40 } : Room).slots) := by
  refine MetFree.of_bodySF (plainFor_of_name pn_0) hisR ?_
  intro p e s m args below meth c s₁ Bd hml0 hP hK
  obtain ⟨rfl, hZ, hh⟩ := hP
  have hx := Bd.exec
  have hby := Bd.bytes
  have hml : c.maxLocals = 2 := hml0
  have hown : s.vm.findClass "java/lang/StringUTF16" = some m.cls := findClass_of_methodNamed Bd.named
  have hnm := (name_of_methodNamed Bd.named Bd.method).1
  have X0 : Stand p l e ({ frames := 3, cells := 0, slots := 0, locals := 40 } : Room) s m #[(.ref a1), (.int p2)] below meth c s₁ [] 0 0 := Stand.of_body Bd
  have e0 : s₁.heap = h0 := by rw [← hh, Bd.state]; rfl
  have N0 := Fr.nil n0
  have pre0 : ∀ t, Steps p.tables e below (s₁.setTop (mkF m 0 #[.val (.ref a1), .val (.int p2)] [])) t → Steps p.tables e below (s₁.setTop (entryFrame m #[(.ref a1), (.int p2)] 2)) t := fun t k => castTop (ef_18 m a1 p2) k
  obtain ⟨_, _, ⟨T3, L3, k3, n3⟩, -, X3, ⟨Lc3, hQ3, l3, y3, z3⟩, st3⟩ := Jvm.LawKit.callS X0 hx (y := (⟨"java/lang/StringUTF16", "checkIndex", "(I[B)V"⟩ : MethodName)) hown (mvT hZ (hw _ (List.mem_of_getElem? (i := 84) rfl))) (mvT hZ (hw _ (List.mem_of_getElem? (i := 85) rfl))) (mvT hZ (hw _ (List.mem_of_getElem? (i := 21) rfl))) (mvT hZ (hw _ (List.mem_of_getElem? (i := 86) rfl))) (by decide) (backOf (W := 0) (rm19 l Z a0 hw [] p2 a1 z_a1 c_a1 w_SIO h0 n0 Z0 V_a1 S_SIOOBE_FORMATTER hcat (own_q0 hg)) hZ (hw _ (List.mem_of_getElem? (i := 86) rfl)) (hw _ (List.mem_of_getElem? (i := 21) rfl)) (by decide) (by decide)) (g := (mkF m 2 #[.val (.ref a1), .val (.int p2)] [(.ref a1), (.int p2)])) rfl (by rw [hml]; rfl) (argsL := [(.int p2), (.ref a1)]) (rest := []) (lenOf pd_11 rfl) rfl (by show 2 * 0 + _ ≤ _; exact Nat.le_of_eq rfl) (hb hby d18_2) (fun _ _ => ⟨rfl, e0, (by decide : 0 + 0 ≤ _), (by decide : 0 + 0 ≤ _)⟩)
  dsimp only [Pt.U, Pt.locs, Pt.cells, Pt.slots] at X3 l3 y3 z3 st3 hQ3
  subst l3 y3 z3
  obtain ⟨rfl, N3q, e3⟩ := hQ3
  have N3 := Fr.app N0 N3q
  obtain ⟨_, _, ⟨T4, L4, k4, n4⟩, -, X4, ⟨Lc4, hQ4, l4, y4, z4⟩, st4⟩ := Jvm.LawKit.callS X3 hx (y := (⟨"java/lang/StringUTF16", "getChar", "([BI)C"⟩ : MethodName)) hown (mvT hZ (hw _ (List.mem_of_getElem? (i := 78) rfl))) (mvT hZ (hw _ (List.mem_of_getElem? (i := 79) rfl))) (mvT hZ (hw _ (List.mem_of_getElem? (i := 21) rfl))) (mvT hZ (hw _ (List.mem_of_getElem? (i := 80) rfl))) (by decide) (backOf (W := 0) (rm17 l Z a0 hw [] a1 p2 z_a1 c_a1 h0 n0 Z0 V_a1 S__assertionsDisabled S_HI_BYTE_SHIFT S_LO_BYTE_SHIFT hg) hZ (hw _ (List.mem_of_getElem? (i := 80) rfl)) (hw _ (List.mem_of_getElem? (i := 21) rfl)) (by decide) (by decide)) (g := (mkF m 7 #[.val (.ref a1), .val (.int p2)] [(.int p2), (.ref a1)])) rfl (by rw [hml]; rfl) (argsL := [(.ref a1), (.int p2)]) (rest := []) (lenOf pd_5 rfl) rfl (by show 2 * 0 + _ ≤ _; exact Nat.le_of_eq rfl) (hb hby d18_7) (fun _ _ => ⟨rfl, e3, (by decide : 0 + 0 ≤ _), (by decide : 0 + 0 ≤ _)⟩)
  dsimp only [Pt.U, Pt.locs, Pt.cells, Pt.slots] at X4 l4 y4 z4 st4 hQ4
  subst l4 y4 z4
  obtain ⟨rfl, N4q, e4⟩ := hQ4
  have N4 := Fr.app N3 N4q
  have eq1 : (f18 p2 z_a1 c_a1) = (nar .char (f17 p2 z_a1 c_a1)) := rfl
  obtain ⟨fs, hr, hrun, hended, hW, hsame⟩ := X4.leave (v := some (.int (nar .char (f17 p2 z_a1 c_a1)))) (fun h => by rw [Bd.returns] at h; cases h)
  refine ⟨_, _, pre0 _ ?_, hrun, hended, _, _, rfl, ?_, ⟨_, rfl⟩, hW, hsame.mono (by decide) (by decide)⟩
  · show Steps p.tables e below (s₁.setTop (mkF m 0 #[.val (.ref a1), .val (.int p2)] [])) _
    refine XS.iloadN X0.here hx rfl (hb hby d18_0) rfl ?_
    show Steps p.tables e below (s₁.setTop (mkF m 1 #[.val (.ref a1), .val (.int p2)] [(.int p2)])) _
    refine XS.aloadN X0.here hx rfl (hb hby d18_1) rfl rfl ?_
    show Steps p.tables e below (s₁.setTop (mkF m 2 #[.val (.ref a1), .val (.int p2)] [(.ref a1), (.int p2)])) _
    refine st3 _ ?_
    show Steps p.tables e below (T3.setTop (mkF m 5 #[.val (.ref a1), .val (.int p2)] [])) _
    refine XS.aloadN X3.here hx rfl (hb hby d18_5) rfl rfl ?_
    show Steps p.tables e below (T3.setTop (mkF m 6 #[.val (.ref a1), .val (.int p2)] [(.ref a1)])) _
    refine XS.iloadN X3.here hx rfl (hb hby d18_6) rfl ?_
    show Steps p.tables e below (T3.setTop (mkF m 7 #[.val (.ref a1), .val (.int p2)] [(.int p2), (.ref a1)])) _
    refine st4 _ ?_
    show Steps p.tables e below (T4.setTop (mkF m 10 #[.val (.ref a1), .val (.int p2)] [(.int (f17 p2 z_a1 c_a1))])) _
    exact retN X4 hx (t := .char) Bd.returns (by simp) (hb hby d18_10) hr
  · show Q18 Z a1 p2 z_a1 c_a1 w_SIO h0 n0 _ T4.heap _
    rw [e4]
    exact ⟨by rw [eq1], N4, rfl⟩
theorem pd_12 : parseMethodDescriptor "()Z" = some ⟨[], some .boolean⟩ := by decide +kernel
theorem d8_0 : decode jdk_42_method_56_code 0 = .ok (.aload_n 0, 1) := by decide +kernel
theorem d8_1 : decode jdk_42_method_56_code 1 = .ok (.invokevirtual 492, 3) := by decide +kernel
theorem d8_4 : decode jdk_42_method_56_code 4 = .ok (.ifCond .eq 12, 3) := by decide +kernel
theorem d8_7 : decode jdk_42_method_56_code 7 = .ok (.aload_n 0, 1) := by decide +kernel
theorem d8_8 : decode jdk_42_method_56_code 8 = .ok (.getfield 9, 3) := by decide +kernel
theorem d8_11 : decode jdk_42_method_56_code 11 = .ok (.iload_n 1, 1) := by decide +kernel
theorem d8_12 : decode jdk_42_method_56_code 12 = .ok (.invokestatic 495, 3) := by decide +kernel
theorem d8_15 : decode jdk_42_method_56_code 15 = .ok (.ireturn, 1) := by decide +kernel
theorem d8_16 : decode jdk_42_method_56_code 16 = .ok (.aload_n 0, 1) := by decide +kernel
theorem d8_17 : decode jdk_42_method_56_code 17 = .ok (.getfield 9, 3) := by decide +kernel
theorem d8_20 : decode jdk_42_method_56_code 20 = .ok (.iload_n 1, 1) := by decide +kernel
theorem d8_21 : decode jdk_42_method_56_code 21 = .ok (.invokestatic 498, 3) := by decide +kernel
theorem d8_24 : decode jdk_42_method_56_code 24 = .ok (.ireturn, 1) := by decide +kernel
theorem ef_8 (m : MethodId) (x0 : Addr) (x1 : Int32) : entryFrame m #[(.ref x0), (.int x1)] 2 = mkF m 0 #[.val (.ref x0), .val (.int x1)] [] := by first | (simp [entryFrame, mkF, argsToLocals, Value.category]; done) | rfl
theorem own_q1 {w co p z : Int32} (hcs : ¬ w = 0) (h : 0 ≤ p.toInt ∧ p.toInt < 12 ∧ ((co = 0 ∧ z = 12) ∨ (co = 1 ∧ z = 24))) (hc : ¬ (f9 w co = 0)) : ¬ p < 0 ∧ p < z := by
  obtain ⟨h0, h1, ⟨rfl, rfl⟩ | ⟨rfl, rfl⟩⟩ := h
  · rw [Int32.lt_iff_toInt_lt, Int32.lt_iff_toInt_lt, own_e0, own_e12]; omega
  · exact absurd (by unfold f9; rw [if_neg hcs, if_neg (by decide)]) hc
theorem own_q2 {w co p z : Int32} (hcs : ¬ w = 0) (h : 0 ≤ p.toInt ∧ p.toInt < 12 ∧ ((co = 0 ∧ z = 12) ∨ (co = 1 ∧ z = 24))) (hc : f9 w co = 0) : 0 ≤ p.toInt ∧ p.toInt < 12 ∧ z = 24 := by
  obtain ⟨h0, h1, ⟨rfl, rfl⟩ | ⟨rfl, rfl⟩⟩ := h
  · exact absurd hc (by unfold f9; rw [if_neg hcs, if_pos rfl]; decide)
  · exact ⟨h0, h1, rfl⟩
def f8 (p2 : Int32) (w_CS : Int32) (w_coder_a1 : Int32) (z_w_val : Int32) (c_w_val : Nat → Int32) : Int32 := (if (f9 w_CS w_coder_a1) = (0 : Int32) then (nar .char (f18 p2 z_w_val c_w_val)) else (nar .char (f10 p2 z_w_val c_w_val)))
def Q8 (Z : State) (a1 : Addr) (p2 : Int32) (w_CS : Int32) (w_coder_a1 : Int32) (w_val : Addr) (z_w_val : Int32) (c_w_val : Nat → Int32) (w_SIO : Value) (h0 : Heap) (n0 : Nat) (v : Option Value) (h : Heap) (L : List Loc) : Prop := v = some (.int (f8 p2 w_CS w_coder_a1 z_w_val c_w_val)) ∧ Fr n0 L ∧ h = h0
set_option maxRecDepth 65536 in
set_option maxHeartbeats 40000000 in
theorem rm8 (l : Launch) (Z : State) (a0 : Array Value) (hw : ∀ d ∈ tables_1, d.before a0 Z = true) (ws : List Jvm.Cond) (a1 : Addr) (p2 : Int32) (w_CS : Int32) (w_coder_a1 : Int32) (w_val : Addr) (z_w_val : Int32) (c_w_val : Nat → Int32) (w_SIO : Value) (h0 : Heap) (n0 : Nat) (Z0 : n0 ≤ h0.size) (E_a1 : Exa Z h0 a1 "java/lang/String") (S_COMPACT_STRINGS : Sta Z h0 "java/lang/String" "COMPACT_STRINGS" "Z" (.int w_CS)) (hcs : ¬ w_CS = 0) (F_coder_a1 : Fld Z h0 a1 "java/lang/String" "coder" "B" (.int w_coder_a1)) (F_value_a1 : Fld Z h0 a1 "java/lang/String" "value" "[B" (.ref w_val)) (V_w_val : IAr Z h0 w_val .byte z_w_val c_w_val) (S_SIOOBE_FORMATTER : Sta Z h0 "jdk/internal/util/Preconditions" "SIOOBE_FORMATTER" "Ljava/util/function/BiFunction;" w_SIO) (hcat : w_SIO.category = 1) (S__assertionsDisabled : Sta Z h0 "java/lang/StringUTF16" "$assertionsDisabled" "Z" (.int (1 : Int32))) (S_HI_BYTE_SHIFT : Sta Z h0 "java/lang/StringUTF16" "HI_BYTE_SHIFT" "I" (.int (0 : Int32))) (S_LO_BYTE_SHIFT : Sta Z h0 "java/lang/StringUTF16" "LO_BYTE_SHIFT" "I" (.int (8 : Int32))) (hst : 0 ≤ p2.toInt ∧ p2.toInt < 12 ∧ ((w_coder_a1 = 0 ∧ z_w_val = 12) ∨ (w_coder_a1 = 1 ∧ z_w_val = 24))) :
    MetFree l (⟨"java/lang/String", "charAt", "(I)C"⟩ : MethodName) (head1 (Jvm.Cond.code (⟨"java/lang/String", "charAt", "(I)C"⟩ : MethodName) jdk_42_method_56_code 2 (some .char) :: ws) ({ frames := 4, cells := 0, slots := 0, locals := 53 } : Room)) (fun a U => a = #[(.ref a1), (.int p2)] ∧ Z.Warmed39 U.vm ∧ U.heap = h0) (fun _ _ _ _ _ => True) (fun _ U o U' => ∃ v L, o = .returned v ∧ Q8 Z a1 p2 w_CS w_coder_a1 w_val z_w_val c_w_val w_SIO h0 n0 v U'.heap L ∧ FrameEnd U o U' L ({ frames := 4, cells := 0, slots := 0, locals := 53 } : Room).cells ({ frames := 4, cells := 0, slots := 0, locals := 53 } : Room).slots) := by
  refine MetFree.of_bodySF (plainFor_of_name pn_1) hisR ?_
  intro p e s m args below meth c s₁ Bd hml0 hP hK
  obtain ⟨rfl, hZ, hh⟩ := hP
  have hx := Bd.exec
  have hby := Bd.bytes
  have hml : c.maxLocals = 2 := hml0
  have hown : s.vm.findClass "java/lang/String" = some m.cls := findClass_of_methodNamed Bd.named
  have hnm := (name_of_methodNamed Bd.named Bd.method).1
  have X0 : Stand p l e ({ frames := 4, cells := 0, slots := 0, locals := 53 } : Room) s m #[(.ref a1), (.int p2)] below meth c s₁ [] 0 0 := Stand.of_body Bd
  have e0 : s₁.heap = h0 := by rw [← hh, Bd.state]; rfl
  have N0 := Fr.nil n0
  have pre0 : ∀ t, Steps p.tables e below (s₁.setTop (mkF m 0 #[.val (.ref a1), .val (.int p2)] [])) t → Steps p.tables e below (s₁.setTop (entryFrame m #[(.ref a1), (.int p2)] 2)) t := fun t k => castTop (ef_8 m a1 p2) k
  obtain ⟨cq3, kq3, q3a, q3b, q3c⟩ := isOf hZ e0 E_a1
  obtain ⟨_, _, ⟨T3, L3, k3, n3⟩, -, X3, ⟨Lc3, hQ3, l3, y3, z3⟩, st3⟩ := X0.virtualBack hx (y := (⟨"java/lang/String", "isLatin1", "()Z"⟩ : MethodName)) (z := (⟨"java/lang/String", "isLatin1", "()Z"⟩ : MethodName)) hown (mvT hZ (hw _ (List.mem_of_getElem? (i := 42) rfl))) (mvT hZ (hw _ (List.mem_of_getElem? (i := 43) rfl))) (notFace_of_selects (args := #[]) (mvT hZ (hw _ (List.mem_of_getElem? (i := 45) rfl)))) (mvT hZ (hw _ (List.mem_of_getElem? (i := 45) rfl))) (mvT hZ (hw _ (List.mem_of_getElem? (i := 44) rfl))) (by decide) (backOf (W := 0) (rm9 l Z a0 hw [] a1 w_CS w_coder_a1 h0 n0 Z0 S_COMPACT_STRINGS F_coder_a1) hZ (hw _ (List.mem_of_getElem? (i := 46) rfl)) (hw _ (List.mem_of_getElem? (i := 7) rfl)) (by decide) (by decide)) q3a q3c (g := (mkF m 1 #[.val (.ref a1), .val (.int p2)] [(.ref a1)])) rfl (by rw [hml]; rfl) (Steps.refl _) (argsL := []) (rest := []) (lenOf pd_12 rfl) rfl (by show 2 * 0 + _ ≤ _; exact Nat.le_of_eq rfl) (hb hby d8_1) (fun _ _ => ⟨rfl, e0, (by decide : 0 + 0 ≤ _), (by decide : 0 + 0 ≤ _)⟩)
  dsimp only [Pt.U, Pt.locs, Pt.cells, Pt.slots] at X3 l3 y3 z3 st3 hQ3
  subst l3 y3 z3
  obtain ⟨rfl, N3q, e3⟩ := hQ3
  have N3 := Fr.app N0 N3q
  have pre1 : ∀ t, Steps p.tables e below (T3.setTop (mkF m 4 #[.val (.ref a1), .val (.int p2)] [(.int (f9 w_CS w_coder_a1))])) t → Steps p.tables e below (s₁.setTop (entryFrame m #[(.ref a1), (.int p2)] 2)) t := by
    intro t k
    refine pre0 t ?_
    show Steps p.tables e below (s₁.setTop (mkF m 0 #[.val (.ref a1), .val (.int p2)] [])) _
    refine XS.aloadN X0.here hx rfl (hb hby d8_0) rfl rfl ?_
    show Steps p.tables e below (s₁.setTop (mkF m 1 #[.val (.ref a1), .val (.int p2)] [(.ref a1)])) _
    refine st3.trans ?_
    exact k
  by_cases hc4 : (f9 w_CS w_coder_a1) = (0 : Int32)
  · obtain ⟨T4, X4, e4, st4⟩ := getF X3 hx hZ hown (host := "") (Or.inl (hw _ (List.mem_of_getElem? (i := 31) rfl))) Via.refl e3 F_value_a1 (g := (mkF m 17 #[.val (.ref a1), .val (.int p2)] [(.ref a1)])) rfl rfl (hb hby d8_17)
    obtain ⟨_, _, ⟨T5, L5, k5, n5⟩, -, X5, ⟨Lc5, hQ5, l5, y5, z5⟩, st5⟩ := Jvm.LawKit.callS X4 hx (y := (⟨"java/lang/StringUTF16", "charAt", "([BI)C"⟩ : MethodName)) hown (mvT hZ (hw _ (List.mem_of_getElem? (i := 81) rfl))) (mvT hZ (hw _ (List.mem_of_getElem? (i := 82) rfl))) (mvT hZ (hw _ (List.mem_of_getElem? (i := 21) rfl))) (mvT hZ (hw _ (List.mem_of_getElem? (i := 83) rfl))) (by decide) (backOf (W := 0) (rm18 l Z a0 hw [] w_val p2 z_w_val c_w_val w_SIO h0 n0 Z0 V_w_val S_SIOOBE_FORMATTER hcat S__assertionsDisabled S_HI_BYTE_SHIFT S_LO_BYTE_SHIFT (own_q2 hcs hst hc4)) hZ (hw _ (List.mem_of_getElem? (i := 83) rfl)) (hw _ (List.mem_of_getElem? (i := 21) rfl)) (by decide) (by decide)) (g := (mkF m 21 #[.val (.ref a1), .val (.int p2)] [(.int p2), (.ref w_val)])) rfl (by rw [hml]; rfl) (argsL := [(.ref w_val), (.int p2)]) (rest := []) (lenOf pd_5 rfl) rfl (by show 2 * 0 + _ ≤ _; exact Nat.le_of_eq rfl) (hb hby d8_21) (fun _ _ => ⟨rfl, e4, (by decide : 0 + 0 ≤ _), (by decide : 0 + 0 ≤ _)⟩)
    dsimp only [Pt.U, Pt.locs, Pt.cells, Pt.slots] at X5 l5 y5 z5 st5 hQ5
    subst l5 y5 z5
    obtain ⟨rfl, N5q, e5⟩ := hQ5
    have N5 := Fr.app N3 N5q
    have eq2 : (f8 p2 w_CS w_coder_a1 z_w_val c_w_val) = (nar .char (f18 p2 z_w_val c_w_val)) := by unfold f8; simp only [if_pos hc4]
    obtain ⟨fs, hr, hrun, hended, hW, hsame⟩ := X5.leave (v := some (.int (nar .char (f18 p2 z_w_val c_w_val)))) (fun h => by rw [Bd.returns] at h; cases h)
    refine ⟨_, _, pre1 _ ?_, hrun, hended, _, _, rfl, ?_, ⟨_, rfl⟩, hW, hsame.mono (by decide) (by decide)⟩
    · show Steps p.tables e below (T3.setTop (mkF m 4 #[.val (.ref a1), .val (.int p2)] [(.int (f9 w_CS w_coder_a1))])) _
      refine XS.ifYes X3.here hx rfl (pc0 := 4) (pc' := 16) rfl (hb hby d8_4) rfl ((if0 _ _).trans (teq hc4).1) (by decide) (by decide) ?_
      show Steps p.tables e below (T3.setTop (mkF m 16 #[.val (.ref a1), .val (.int p2)] [])) _
      refine XS.aloadN X3.here hx rfl (hb hby d8_16) rfl rfl ?_
      show Steps p.tables e below (T3.setTop (mkF m 17 #[.val (.ref a1), .val (.int p2)] [(.ref a1)])) _
      refine st4 _ ?_
      show Steps p.tables e below (T4.setTop (mkF m 20 #[.val (.ref a1), .val (.int p2)] [(.ref w_val)])) _
      refine XS.iloadN X4.here hx rfl (hb hby d8_20) rfl ?_
      show Steps p.tables e below (T4.setTop (mkF m 21 #[.val (.ref a1), .val (.int p2)] [(.int p2), (.ref w_val)])) _
      refine st5 _ ?_
      show Steps p.tables e below (T5.setTop (mkF m 24 #[.val (.ref a1), .val (.int p2)] [(.int (f18 p2 z_w_val c_w_val))])) _
      exact retN X5 hx (t := .char) Bd.returns (by simp) (hb hby d8_24) hr
    · show Q8 Z a1 p2 w_CS w_coder_a1 w_val z_w_val c_w_val w_SIO h0 n0 _ T5.heap _
      rw [e5]
      exact ⟨by rw [eq2], N5, rfl⟩
  · obtain ⟨T6, X6, e6, st6⟩ := getF X3 hx hZ hown (host := "") (Or.inl (hw _ (List.mem_of_getElem? (i := 31) rfl))) Via.refl e3 F_value_a1 (g := (mkF m 8 #[.val (.ref a1), .val (.int p2)] [(.ref a1)])) rfl rfl (hb hby d8_8)
    obtain ⟨_, _, ⟨T7, L7, k7, n7⟩, -, X7, ⟨Lc7, hQ7, l7, y7, z7⟩, st7⟩ := Jvm.LawKit.callS X6 hx (y := (⟨"java/lang/StringLatin1", "charAt", "([BI)C"⟩ : MethodName)) hown (mvT hZ (hw _ (List.mem_of_getElem? (i := 47) rfl))) (mvT hZ (hw _ (List.mem_of_getElem? (i := 48) rfl))) (mvT hZ (hw _ (List.mem_of_getElem? (i := 49) rfl))) (mvT hZ (hw _ (List.mem_of_getElem? (i := 50) rfl))) (by decide) (backOf (W := 0) (rm10 l Z a0 hw [] w_val p2 z_w_val c_w_val w_SIO h0 n0 Z0 V_w_val S_SIOOBE_FORMATTER hcat (own_q1 hcs hst hc4)) hZ (hw _ (List.mem_of_getElem? (i := 50) rfl)) (hw _ (List.mem_of_getElem? (i := 49) rfl)) (by decide) (by decide)) (g := (mkF m 12 #[.val (.ref a1), .val (.int p2)] [(.int p2), (.ref w_val)])) rfl (by rw [hml]; rfl) (argsL := [(.ref w_val), (.int p2)]) (rest := []) (lenOf pd_5 rfl) rfl (by show 2 * 0 + _ ≤ _; exact Nat.le_of_eq rfl) (hb hby d8_12) (fun _ _ => ⟨rfl, e6, (by decide : 0 + 0 ≤ _), (by decide : 0 + 0 ≤ _)⟩)
    dsimp only [Pt.U, Pt.locs, Pt.cells, Pt.slots] at X7 l7 y7 z7 st7 hQ7
    subst l7 y7 z7
    obtain ⟨rfl, N7q, e7⟩ := hQ7
    have N7 := Fr.app N3 N7q
    have eq3 : (f8 p2 w_CS w_coder_a1 z_w_val c_w_val) = (nar .char (f10 p2 z_w_val c_w_val)) := by unfold f8; simp only [if_neg hc4]
    obtain ⟨fs, hr, hrun, hended, hW, hsame⟩ := X7.leave (v := some (.int (nar .char (f10 p2 z_w_val c_w_val)))) (fun h => by rw [Bd.returns] at h; cases h)
    refine ⟨_, _, pre1 _ ?_, hrun, hended, _, _, rfl, ?_, ⟨_, rfl⟩, hW, hsame.mono (by decide) (by decide)⟩
    · show Steps p.tables e below (T3.setTop (mkF m 4 #[.val (.ref a1), .val (.int p2)] [(.int (f9 w_CS w_coder_a1))])) _
      refine XS.ifNo X3.here hx rfl (hb hby d8_4) rfl ((if0 _ _).trans (feq hc4).1) ?_
      show Steps p.tables e below (T3.setTop (mkF m 7 #[.val (.ref a1), .val (.int p2)] [])) _
      refine XS.aloadN X3.here hx rfl (hb hby d8_7) rfl rfl ?_
      show Steps p.tables e below (T3.setTop (mkF m 8 #[.val (.ref a1), .val (.int p2)] [(.ref a1)])) _
      refine st6 _ ?_
      show Steps p.tables e below (T6.setTop (mkF m 11 #[.val (.ref a1), .val (.int p2)] [(.ref w_val)])) _
      refine XS.iloadN X6.here hx rfl (hb hby d8_11) rfl ?_
      show Steps p.tables e below (T6.setTop (mkF m 12 #[.val (.ref a1), .val (.int p2)] [(.int p2), (.ref w_val)])) _
      refine st7 _ ?_
      show Steps p.tables e below (T7.setTop (mkF m 15 #[.val (.ref a1), .val (.int p2)] [(.int (f10 p2 z_w_val c_w_val))])) _
      exact retN X7 hx (t := .char) Bd.returns (by simp) (hb hby d8_15) hr
    · show Q8 Z a1 p2 w_CS w_coder_a1 w_val z_w_val c_w_val w_SIO h0 n0 _ T7.heap _
      rw [e7]
      exact ⟨by rw [eq3], N7, rfl⟩
theorem pd_13 : parseMethodDescriptor "(I)C" = some ⟨[.int], some .char⟩ := by decide +kernel
theorem pn_4 : plainName "com/example/ringward/ringward/Utf8" = true := by first | (simp [plainName, overriddenIn]; done) | decide +kernel
theorem d7_0 : decode prog_14_method_3_code 0 = .ok (.lconst 0, 1) := by decide +kernel
theorem d7_1 : decode prog_14_method_3_code 1 = .ok (.lstore 4, 2) := by decide +kernel
theorem d7_3 : decode prog_14_method_3_code 3 = .ok (.aload_n 1, 1) := by decide +kernel
theorem d7_4 : decode prog_14_method_3_code 4 = .ok (.ifnull 41, 3) := by decide +kernel
theorem d7_45 : decode prog_14_method_3_code 45 = .ok (.iconst 0, 1) := by decide +kernel
theorem d7_46 : decode prog_14_method_3_code 46 = .ok (.istore 6, 2) := by decide +kernel
theorem d7_48 : decode prog_14_method_3_code 48 = .ok (.iload_n 3, 1) := by decide +kernel
theorem d7_49 : decode prog_14_method_3_code 49 = .ok (.iconst 1, 1) := by decide +kernel
theorem d7_50 : decode prog_14_method_3_code 50 = .ok (.isub, 1) := by decide +kernel
theorem d7_51 : decode prog_14_method_3_code 51 = .ok (.istore 7, 2) := by decide +kernel
theorem d7_53 : decode prog_14_method_3_code 53 = .ok (.iload 7, 2) := by decide +kernel
theorem d7_55 : decode prog_14_method_3_code 55 = .ok (.ifCond .lt 37, 3) := by decide +kernel
theorem d7_58 : decode prog_14_method_3_code 58 = .ok (.aload_n 0, 1) := by decide +kernel
theorem d7_59 : decode prog_14_method_3_code 59 = .ok (.iload_n 2, 1) := by decide +kernel
theorem d7_60 : decode prog_14_method_3_code 60 = .ok (.iload 7, 2) := by decide +kernel
theorem d7_62 : decode prog_14_method_3_code 62 = .ok (.iadd, 1) := by decide +kernel
theorem d7_63 : decode prog_14_method_3_code 63 = .ok (.invokevirtual 30, 3) := by decide +kernel
theorem d7_66 : decode prog_14_method_3_code 66 = .ok (.istore 8, 2) := by decide +kernel
theorem d7_68 : decode prog_14_method_3_code 68 = .ok (.iload 6, 2) := by decide +kernel
theorem d7_70 : decode prog_14_method_3_code 70 = .ok (.iload 8, 2) := by decide +kernel
theorem d7_72 : decode prog_14_method_3_code 72 = .ok (.ior, 1) := by decide +kernel
theorem d7_73 : decode prog_14_method_3_code 73 = .ok (.istore 6, 2) := by decide +kernel
theorem d7_75 : decode prog_14_method_3_code 75 = .ok (.lload 4, 2) := by decide +kernel
theorem d7_77 : decode prog_14_method_3_code 77 = .ok (.bipush 8, 2) := by decide +kernel
theorem d7_79 : decode prog_14_method_3_code 79 = .ok (.lshl, 1) := by decide +kernel
theorem d7_80 : decode prog_14_method_3_code 80 = .ok (.iload 8, 2) := by decide +kernel
theorem d7_82 : decode prog_14_method_3_code 82 = .ok (.i2l, 1) := by decide +kernel
theorem d7_83 : decode prog_14_method_3_code 83 = .ok (.lor, 1) := by decide +kernel
theorem d7_84 : decode prog_14_method_3_code 84 = .ok (.lstore 4, 2) := by decide +kernel
theorem d7_86 : decode prog_14_method_3_code 86 = .ok (.iinc 7 (-1), 3) := by decide +kernel
theorem d7_89 : decode prog_14_method_3_code 89 = .ok (.goto (-36), 3) := by decide +kernel
theorem d7_92 : decode prog_14_method_3_code 92 = .ok (.iload 6, 2) := by decide +kernel
theorem d7_94 : decode prog_14_method_3_code 94 = .ok (.sipush 128, 3) := by decide +kernel
theorem d7_97 : decode prog_14_method_3_code 97 = .ok (.if_icmp .ge 8, 3) := by decide +kernel
theorem d7_100 : decode prog_14_method_3_code 100 = .ok (.lload 4, 2) := by decide +kernel
theorem d7_102 : decode prog_14_method_3_code 102 = .ok (.goto 6, 3) := by decide +kernel
theorem d7_105 : decode prog_14_method_3_code 105 = .ok (.ldc2_w 34, 3) := by decide +kernel
theorem d7_108 : decode prog_14_method_3_code 108 = .ok (.lstore 4, 2) := by decide +kernel
theorem d7_110 : decode prog_14_method_3_code 110 = .ok (.lload 4, 2) := by decide +kernel
theorem d7_112 : decode prog_14_method_3_code 112 = .ok (.lreturn, 1) := by decide +kernel
theorem ef_7n (m : MethodId) (x0 : Addr) (x2 : Int32) (x3 : Int32) : entryFrame m #[(.ref x0), .null, (.int x2), (.int x3)] 9 = mkF m 0 #[.val (.ref x0), .val .null, .val (.int x2), .val (.int x3), .unset, .unset, .unset, .unset, .unset] [] := by first | (simp [entryFrame, mkF, argsToLocals, Value.category]; done) | rfl
def g7n_53 (p3 : Int32) (p4 : Int32) (w_CS : Int32) (w_coder_a1 : Int32) (z_w_val : Int32) (c_w_val : Nat → Int32) : Nat → Int64 → Int32 → Int32 → Int64
  | 0, _, _, _ => 0
  | k + 1, j4, i6, i7 => (if i7 < (0 : Int32) then (if i6 < (128 : Int32) then j4 else (-1 : Int64)) else (g7n_53 p3 p4 w_CS w_coder_a1 z_w_val c_w_val k ((j4 <<< ((8 : Int32) &&& 0x3f).toInt64) ||| ((f8 (p3 + i7) w_CS w_coder_a1 z_w_val c_w_val).toInt64)) (i6 ||| (f8 (p3 + i7) w_CS w_coder_a1 z_w_val c_w_val)) (i7 + (-1 : Int32))))
def f7n (p3 : Int32) (p4 : Int32) (w_CS : Int32) (w_coder_a1 : Int32) (z_w_val : Int32) (c_w_val : Nat → Int32) : Int64 := (g7n_53 p3 p4 w_CS w_coder_a1 z_w_val c_w_val (10) (0 : Int64) (0 : Int32) (p4 - (1 : Int32)))
def Q7n (Z : State) (a1 : Addr) (p3 : Int32) (p4 : Int32) (w_CS : Int32) (w_coder_a1 : Int32) (w_val : Addr) (z_w_val : Int32) (c_w_val : Nat → Int32) (w_SIO : Value) (h0 : Heap) (n0 : Nat) (v : Option Value) (h : Heap) (L : List Loc) : Prop := v = some (.long (f7n p3 p4 w_CS w_coder_a1 z_w_val c_w_val)) ∧ Fr n0 L ∧ h = h0
set_option maxRecDepth 65536 in
set_option maxHeartbeats 40000000 in
theorem rm7n (l : Launch) (Z : State) (a0 : Array Value) (hw : ∀ d ∈ tables_1, d.before a0 Z = true) (ws : List Jvm.Cond) (a1 : Addr) (p3 : Int32) (p4 : Int32) (w_CS : Int32) (w_coder_a1 : Int32) (w_val : Addr) (z_w_val : Int32) (c_w_val : Nat → Int32) (w_SIO : Value) (h0 : Heap) (n0 : Nat) (Z0 : n0 ≤ h0.size) (E_a1 : Exa Z h0 a1 "java/lang/String") (S_COMPACT_STRINGS : Sta Z h0 "java/lang/String" "COMPACT_STRINGS" "Z" (.int w_CS)) (hcs : ¬ w_CS = 0) (F_coder_a1 : Fld Z h0 a1 "java/lang/String" "coder" "B" (.int w_coder_a1)) (F_value_a1 : Fld Z h0 a1 "java/lang/String" "value" "[B" (.ref w_val)) (V_w_val : IAr Z h0 w_val .byte z_w_val c_w_val) (S_SIOOBE_FORMATTER : Sta Z h0 "jdk/internal/util/Preconditions" "SIOOBE_FORMATTER" "Ljava/util/function/BiFunction;" w_SIO) (hcat : w_SIO.category = 1) (S__assertionsDisabled : Sta Z h0 "java/lang/StringUTF16" "$assertionsDisabled" "Z" (.int (1 : Int32))) (S_HI_BYTE_SHIFT : Sta Z h0 "java/lang/StringUTF16" "HI_BYTE_SHIFT" "I" (.int (0 : Int32))) (S_LO_BYTE_SHIFT : Sta Z h0 "java/lang/StringUTF16" "LO_BYTE_SHIFT" "I" (.int (8 : Int32))) (hst : 0 ≤ p3.toInt ∧ p3.toInt ≤ 3 ∧ 0 ≤ p4.toInt ∧ p4.toInt ≤ 8 ∧ ((w_coder_a1 = 0 ∧ z_w_val = 12) ∨ (w_coder_a1 = 1 ∧ z_w_val = 24))) :
    MetFree l (⟨"com/example/ringward/ringward/Utf8", "littleEndian", "(Ljava/lang/String;[BII)J"⟩ : MethodName) (head1 (Jvm.Cond.code (⟨"com/example/ringward/ringward/Utf8", "littleEndian", "(Ljava/lang/String;[BII)J"⟩ : MethodName) prog_14_method_3_code 9 (some .long) :: ws) ({ frames := 5, cells := 0, slots := 0, locals := 66 } : Room)) (fun a U => a = #[(.ref a1), .null, (.int p3), (.int p4)] ∧ Z.Warmed39 U.vm ∧ U.heap = h0) (fun _ _ _ _ _ => True) (fun _ U o U' => ∃ v L, o = .returned v ∧ Q7n Z a1 p3 p4 w_CS w_coder_a1 w_val z_w_val c_w_val w_SIO h0 n0 v U'.heap L ∧ FrameEnd U o U' L ({ frames := 5, cells := 0, slots := 0, locals := 66 } : Room).cells ({ frames := 5, cells := 0, slots := 0, locals := 66 } : Room).slots) := by
  refine MetFree.of_bodySF (plainFor_of_name pn_4) hisR ?_
  intro p e s m args below meth c s₁ Bd hml0 hP hK
  obtain ⟨rfl, hZ, hh⟩ := hP
  have hx := Bd.exec
  have hby := Bd.bytes
  have hml : c.maxLocals = 9 := hml0
  have hown : s.vm.findClass "com/example/ringward/ringward/Utf8" = some m.cls := findClass_of_methodNamed Bd.named
  have hnm := (name_of_methodNamed Bd.named Bd.method).1
  have X0 : Stand p l e ({ frames := 5, cells := 0, slots := 0, locals := 66 } : Room) s m #[(.ref a1), .null, (.int p3), (.int p4)] below meth c s₁ [] 0 0 := Stand.of_body Bd
  have e0 : s₁.heap = h0 := by rw [← hh, Bd.state]; rfl
  have N0 := Fr.nil n0
  have pre0 : ∀ t, Steps p.tables e below (s₁.setTop (mkF m 0 #[.val (.ref a1), .val .null, .val (.int p3), .val (.int p4), .unset, .unset, .unset, .unset, .unset] [])) t → Steps p.tables e below (s₁.setTop (entryFrame m #[(.ref a1), .null, (.int p3), (.int p4)] 9)) t := fun t k => castTop (ef_7n m a1 p3 p4) k
  have pre1 : ∀ t, Steps p.tables e below (s₁.setTop (mkF m 53 #[.val (.ref a1), .val .null, .val (.int p3), .val (.int p4), .val (.long (0 : Int64)), .second, .val (.int (0 : Int32)), .val (.int (p4 - (1 : Int32))), .unset] [])) t → Steps p.tables e below (s₁.setTop (entryFrame m #[(.ref a1), .null, (.int p3), (.int p4)] 9)) t := by
    intro t k
    refine pre0 t ?_
    show Steps p.tables e below (s₁.setTop (mkF m 0 #[.val (.ref a1), .val .null, .val (.int p3), .val (.int p4), .unset, .unset, .unset, .unset, .unset] [])) _
    refine XS.lconst X0.here hx rfl (hb hby d7_0) ?_
    show Steps p.tables e below (s₁.setTop (mkF m 1 #[.val (.ref a1), .val .null, .val (.int p3), .val (.int p4), .unset, .unset, .unset, .unset, .unset] [(.long (0 : Int64))])) _
    refine XS.lstore X0.here hx rfl (hb hby d7_1) rfl (l' := #[.val (.ref a1), .val .null, .val (.int p3), .val (.int p4), .val (.long (0 : Int64)), .second, .unset, .unset, .unset]) rfl ?_
    show Steps p.tables e below (s₁.setTop (mkF m 3 #[.val (.ref a1), .val .null, .val (.int p3), .val (.int p4), .val (.long (0 : Int64)), .second, .unset, .unset, .unset] [])) _
    refine XS.aloadN X0.here hx rfl (hb hby d7_3) rfl rfl ?_
    show Steps p.tables e below (s₁.setTop (mkF m 4 #[.val (.ref a1), .val .null, .val (.int p3), .val (.int p4), .val (.long (0 : Int64)), .second, .unset, .unset, .unset] [.null])) _
    refine XS.ifnullYes X0.here hx rfl (pc0 := 4) (pc' := 45) rfl (hb hby d7_4) rfl (by decide) (by decide) ?_
    show Steps p.tables e below (s₁.setTop (mkF m 45 #[.val (.ref a1), .val .null, .val (.int p3), .val (.int p4), .val (.long (0 : Int64)), .second, .unset, .unset, .unset] [])) _
    refine XS.iconst X0.here hx rfl (hb hby d7_45) ?_
    show Steps p.tables e below (s₁.setTop (mkF m 46 #[.val (.ref a1), .val .null, .val (.int p3), .val (.int p4), .val (.long (0 : Int64)), .second, .unset, .unset, .unset] [(.int (0 : Int32))])) _
    refine XS.istore X0.here hx rfl (hb hby d7_46) rfl (l' := #[.val (.ref a1), .val .null, .val (.int p3), .val (.int p4), .val (.long (0 : Int64)), .second, .val (.int (0 : Int32)), .unset, .unset]) rfl ?_
    show Steps p.tables e below (s₁.setTop (mkF m 48 #[.val (.ref a1), .val .null, .val (.int p3), .val (.int p4), .val (.long (0 : Int64)), .second, .val (.int (0 : Int32)), .unset, .unset] [])) _
    refine XS.iloadN X0.here hx rfl (hb hby d7_48) rfl ?_
    show Steps p.tables e below (s₁.setTop (mkF m 49 #[.val (.ref a1), .val .null, .val (.int p3), .val (.int p4), .val (.long (0 : Int64)), .second, .val (.int (0 : Int32)), .unset, .unset] [(.int p4)])) _
    refine XS.iconst X0.here hx rfl (hb hby d7_49) ?_
    show Steps p.tables e below (s₁.setTop (mkF m 50 #[.val (.ref a1), .val .null, .val (.int p3), .val (.int p4), .val (.long (0 : Int64)), .second, .val (.int (0 : Int32)), .unset, .unset] [(.int (1 : Int32)), (.int p4)])) _
    refine XS.isub X0.here hx rfl (hb hby d7_50) rfl ?_
    show Steps p.tables e below (s₁.setTop (mkF m 51 #[.val (.ref a1), .val .null, .val (.int p3), .val (.int p4), .val (.long (0 : Int64)), .second, .val (.int (0 : Int32)), .unset, .unset] [(.int (p4 - (1 : Int32)))])) _
    refine XS.istore X0.here hx rfl (hb hby d7_51) rfl (l' := #[.val (.ref a1), .val .null, .val (.int p3), .val (.int p4), .val (.long (0 : Int64)), .second, .val (.int (0 : Int32)), .val (.int (p4 - (1 : Int32))), .unset]) rfl ?_
    exact k
  have loop53 : ∀ (k : Nat) (j4 : Int64) (i6 : Int32) (i7 : Int32) (s8 : Slot) (T5 : State) (LT5 : List Loc), One s8 → -1 ≤ i7.toInt ∧ i7.toInt < 8 ∧ i7.toInt + 1 < (k : Int) → Stand p l e ({ frames := 5, cells := 0, slots := 0, locals := 66 } : Room) s m #[(.ref a1), .null, (.int p3), (.int p4)] below meth c T5 LT5 0 0 → T5.heap = h0 → Fr n0 LT5 → (g7n_53 p3 p4 w_CS w_coder_a1 z_w_val c_w_val k j4 i6 i7) = (f7n p3 p4 w_CS w_coder_a1 z_w_val c_w_val) → (∀ t, Steps p.tables e below (T5.setTop (mkF m 53 #[.val (.ref a1), .val .null, .val (.int p3), .val (.int p4), .val (.long j4), .second, .val (.int i6), .val (.int i7), s8] [])) t → Steps p.tables e below (s₁.setTop (entryFrame m #[(.ref a1), .null, (.int p3), (.int p4)] 9)) t) → ∃ s₂ o, Steps p.tables e below (s₁.setTop (entryFrame m #[(.ref a1), .null, (.int p3), (.int p4)] 9)) s₂ ∧ s₂.status = .running ∧ Ended s₂ below o ∧ ∃ v L, o = .returned v ∧ Q7n Z a1 p3 p4 w_CS w_coder_a1 w_val z_w_val c_w_val w_SIO h0 n0 v s₂.heap L ∧ FrameEnd s o s₂ L ({ frames := 5, cells := 0, slots := 0, locals := 66 } : Room).cells ({ frames := 5, cells := 0, slots := 0, locals := 66 } : Room).slots := by
    intro k
    induction k with
    | zero => intro j4 i6 i7 s8 T5 LT5 hs8 hI X5 e5 N5 hg0 preL; exact absurd hI (by omega)
    | succ k ih =>
      intro j4 i6 i7 s8 T5 LT5 hs8 hI X5 e5 N5 hg0 preL
      have pre2 : ∀ t, Steps p.tables e below (T5.setTop (mkF m 55 #[.val (.ref a1), .val .null, .val (.int p3), .val (.int p4), .val (.long j4), .second, .val (.int i6), .val (.int i7), s8] [(.int i7)])) t → Steps p.tables e below (s₁.setTop (entryFrame m #[(.ref a1), .null, (.int p3), (.int p4)] 9)) t := by
        intro t k
        refine preL t ?_
        show Steps p.tables e below (T5.setTop (mkF m 53 #[.val (.ref a1), .val .null, .val (.int p3), .val (.int p4), .val (.long j4), .second, .val (.int i6), .val (.int i7), s8] [])) _
        refine XS.iload X5.here hx rfl (hb hby d7_53) rfl ?_
        exact k
      by_cases hc55 : i7 < (0 : Int32)
      · have pre3 : ∀ t, Steps p.tables e below (T5.setTop (mkF m 97 #[.val (.ref a1), .val .null, .val (.int p3), .val (.int p4), .val (.long j4), .second, .val (.int i6), .val (.int i7), s8] [(.int (128 : Int32)), (.int i6)])) t → Steps p.tables e below (s₁.setTop (entryFrame m #[(.ref a1), .null, (.int p3), (.int p4)] 9)) t := by
          intro t k
          refine pre2 t ?_
          show Steps p.tables e below (T5.setTop (mkF m 55 #[.val (.ref a1), .val .null, .val (.int p3), .val (.int p4), .val (.long j4), .second, .val (.int i6), .val (.int i7), s8] [(.int i7)])) _
          refine XS.ifYes X5.here hx rfl (pc0 := 55) (pc' := 92) rfl (hb hby d7_55) rfl ((if0 _ _).trans (tlt hc55).1) (by decide) (by decide) ?_
          show Steps p.tables e below (T5.setTop (mkF m 92 #[.val (.ref a1), .val .null, .val (.int p3), .val (.int p4), .val (.long j4), .second, .val (.int i6), .val (.int i7), s8] [])) _
          refine XS.iload X5.here hx rfl (hb hby d7_92) rfl ?_
          show Steps p.tables e below (T5.setTop (mkF m 94 #[.val (.ref a1), .val .null, .val (.int p3), .val (.int p4), .val (.long j4), .second, .val (.int i6), .val (.int i7), s8] [(.int i6)])) _
          refine XS.sipush X5.here hx rfl (hb hby d7_94) ?_
          exact k
        by_cases hc97 : i6 < (128 : Int32)
        · have eq4 : (f7n p3 p4 w_CS w_coder_a1 z_w_val c_w_val) = j4 := by rw [← hg0]; simp only [g7n_53, if_pos hc55, if_pos hc97]
          obtain ⟨fs, hr, hrun, hended, hW, hsame⟩ := X5.leave (v := some (.long j4)) (fun h => by rw [Bd.returns] at h; cases h)
          refine ⟨_, _, pre3 _ ?_, hrun, hended, _, _, rfl, ?_, ⟨_, rfl⟩, hW, hsame.mono (by decide) (by decide)⟩
          · show Steps p.tables e below (T5.setTop (mkF m 97 #[.val (.ref a1), .val .null, .val (.int p3), .val (.int p4), .val (.long j4), .second, .val (.int i6), .val (.int i7), s8] [(.int (128 : Int32)), (.int i6)])) _
            refine XS.icmpNo X5.here hx rfl (hb hby d7_97) rfl (tlt hc97).2.1 ?_
            show Steps p.tables e below (T5.setTop (mkF m 100 #[.val (.ref a1), .val .null, .val (.int p3), .val (.int p4), .val (.long j4), .second, .val (.int i6), .val (.int i7), s8] [])) _
            refine XS.lload X5.here hx rfl (hb hby d7_100) rfl ?_
            show Steps p.tables e below (T5.setTop (mkF m 102 #[.val (.ref a1), .val .null, .val (.int p3), .val (.int p4), .val (.long j4), .second, .val (.int i6), .val (.int i7), s8] [(.long j4)])) _
            refine XS.goto X5.here hx rfl (pc0 := 102) (pc' := 108) rfl (hb hby d7_102) (by decide) (by decide) ?_
            show Steps p.tables e below (T5.setTop (mkF m 108 #[.val (.ref a1), .val .null, .val (.int p3), .val (.int p4), .val (.long j4), .second, .val (.int i6), .val (.int i7), s8] [(.long j4)])) _
            refine XS.lstore X5.here hx rfl (hb hby d7_108) rfl (l' := #[.val (.ref a1), .val .null, .val (.int p3), .val (.int p4), .val (.long j4), .second, .val (.int i6), .val (.int i7), s8]) rfl ?_
            show Steps p.tables e below (T5.setTop (mkF m 110 #[.val (.ref a1), .val .null, .val (.int p3), .val (.int p4), .val (.long j4), .second, .val (.int i6), .val (.int i7), s8] [])) _
            refine XS.lload X5.here hx rfl (hb hby d7_110) rfl ?_
            show Steps p.tables e below (T5.setTop (mkF m 112 #[.val (.ref a1), .val .null, .val (.int p3), .val (.int p4), .val (.long j4), .second, .val (.int i6), .val (.int i7), s8] [(.long j4)])) _
            exact X5.lreturnOut hx Bd.returns (hb hby d7_112) hr
          · show Q7n Z a1 p3 p4 w_CS w_coder_a1 w_val z_w_val c_w_val w_SIO h0 n0 _ T5.heap _
            rw [e5]
            exact ⟨by rw [eq4], N5, rfl⟩
        · have eq5 : (f7n p3 p4 w_CS w_coder_a1 z_w_val c_w_val) = (-1 : Int64) := by rw [← hg0]; simp only [g7n_53, if_pos hc55, if_neg hc97]
          obtain ⟨fs, hr, hrun, hended, hW, hsame⟩ := X5.leave (v := some (.long (-1 : Int64))) (fun h => by rw [Bd.returns] at h; cases h)
          refine ⟨_, _, pre3 _ ?_, hrun, hended, _, _, rfl, ?_, ⟨_, rfl⟩, hW, hsame.mono (by decide) (by decide)⟩
          · show Steps p.tables e below (T5.setTop (mkF m 97 #[.val (.ref a1), .val .null, .val (.int p3), .val (.int p4), .val (.long j4), .second, .val (.int i6), .val (.int i7), s8] [(.int (128 : Int32)), (.int i6)])) _
            refine XS.icmpYes X5.here hx rfl (pc0 := 97) (pc' := 105) rfl (hb hby d7_97) rfl (flt hc97).2.1 (by decide) (by decide) ?_
            show Steps p.tables e below (T5.setTop (mkF m 105 #[.val (.ref a1), .val .null, .val (.int p3), .val (.int p4), .val (.long j4), .second, .val (.int i6), .val (.int i7), s8] [])) _
            refine X5.ldc2Long hx hown (mvT hZ (hw _ (List.mem_of_getElem? (i := 91) rfl))) (g := (mkF m 105 #[.val (.ref a1), .val .null, .val (.int p3), .val (.int p4), .val (.long j4), .second, .val (.int i6), .val (.int i7), s8] [])) rfl (hb hby d7_105) _ ?_
            show Steps p.tables e below (T5.setTop (mkF m 108 #[.val (.ref a1), .val .null, .val (.int p3), .val (.int p4), .val (.long j4), .second, .val (.int i6), .val (.int i7), s8] [(.long (-1 : Int64))])) _
            refine XS.lstore X5.here hx rfl (hb hby d7_108) rfl (l' := #[.val (.ref a1), .val .null, .val (.int p3), .val (.int p4), .val (.long (-1 : Int64)), .second, .val (.int i6), .val (.int i7), s8]) rfl ?_
            show Steps p.tables e below (T5.setTop (mkF m 110 #[.val (.ref a1), .val .null, .val (.int p3), .val (.int p4), .val (.long (-1 : Int64)), .second, .val (.int i6), .val (.int i7), s8] [])) _
            refine XS.lload X5.here hx rfl (hb hby d7_110) rfl ?_
            show Steps p.tables e below (T5.setTop (mkF m 112 #[.val (.ref a1), .val .null, .val (.int p3), .val (.int p4), .val (.long (-1 : Int64)), .second, .val (.int i6), .val (.int i7), s8] [(.long (-1 : Int64))])) _
            exact X5.lreturnOut hx Bd.returns (hb hby d7_112) hr
          · show Q7n Z a1 p3 p4 w_CS w_coder_a1 w_val z_w_val c_w_val w_SIO h0 n0 _ T5.heap _
            rw [e5]
            exact ⟨by rw [eq5], N5, rfl⟩
      · obtain ⟨cq6, kq6, q6a, q6b, q6c⟩ := isOf hZ e5 E_a1
        obtain ⟨_, _, ⟨T6, L6, k6, n6⟩, -, X6, ⟨Lc6, hQ6, l6, y6, z6⟩, st6⟩ := X5.virtualBack hx (y := (⟨"java/lang/String", "charAt", "(I)C"⟩ : MethodName)) (z := (⟨"java/lang/String", "charAt", "(I)C"⟩ : MethodName)) hown (mvT hZ (hw _ (List.mem_of_getElem? (i := 37) rfl))) (mvT hZ (hw _ (List.mem_of_getElem? (i := 38) rfl))) (notFace_of_selects (args := #[]) (mvT hZ (hw _ (List.mem_of_getElem? (i := 40) rfl)))) (mvT hZ (hw _ (List.mem_of_getElem? (i := 40) rfl))) (mvT hZ (hw _ (List.mem_of_getElem? (i := 39) rfl))) (by decide) (backOf (W := 0) (rm8 l Z a0 hw [] a1 (p3 + i7) w_CS w_coder_a1 w_val z_w_val c_w_val w_SIO h0 n0 Z0 E_a1 S_COMPACT_STRINGS hcs F_coder_a1 F_value_a1 V_w_val S_SIOOBE_FORMATTER hcat S__assertionsDisabled S_HI_BYTE_SHIFT S_LO_BYTE_SHIFT (own_n1 hI hst hc55)) hZ (hw _ (List.mem_of_getElem? (i := 41) rfl)) (hw _ (List.mem_of_getElem? (i := 7) rfl)) (by decide) (by decide)) q6a q6c (g := (mkF m 63 #[.val (.ref a1), .val .null, .val (.int p3), .val (.int p4), .val (.long j4), .second, .val (.int i6), .val (.int i7), s8] [(.int (p3 + i7)), (.ref a1)])) rfl (by rw [hml]; rfl) (Steps.refl _) (argsL := [(.int (p3 + i7))]) (rest := []) (lenOf pd_13 rfl) rfl (by show 2 * 0 + _ ≤ _; exact Nat.le_of_eq rfl) (hb hby d7_63) (fun _ _ => ⟨rfl, e5, (by decide : 0 + 0 ≤ _), (by decide : 0 + 0 ≤ _)⟩)
        dsimp only [Pt.U, Pt.locs, Pt.cells, Pt.slots] at X6 l6 y6 z6 st6 hQ6
        subst l6 y6 z6
        obtain ⟨rfl, N6q, e6⟩ := hQ6
        have N6 := Fr.app N5 N6q
        have eq6 : (f7n p3 p4 w_CS w_coder_a1 z_w_val c_w_val) = (g7n_53 p3 p4 w_CS w_coder_a1 z_w_val c_w_val k ((j4 <<< ((8 : Int32) &&& 0x3f).toInt64) ||| ((f8 (p3 + i7) w_CS w_coder_a1 z_w_val c_w_val).toInt64)) (i6 ||| (f8 (p3 + i7) w_CS w_coder_a1 z_w_val c_w_val)) (i7 + (-1 : Int32))) := by rw [← hg0]; simp only [g7n_53, if_neg hc55]
        have pre7 : ∀ t, Steps p.tables e below (T6.setTop (mkF m 53 #[.val (.ref a1), .val .null, .val (.int p3), .val (.int p4), .val (.long ((j4 <<< ((8 : Int32) &&& 0x3f).toInt64) ||| ((f8 (p3 + i7) w_CS w_coder_a1 z_w_val c_w_val).toInt64))), .second, .val (.int (i6 ||| (f8 (p3 + i7) w_CS w_coder_a1 z_w_val c_w_val))), .val (.int (i7 + (-1 : Int32))), .val (.int (f8 (p3 + i7) w_CS w_coder_a1 z_w_val c_w_val))] [])) t → Steps p.tables e below (s₁.setTop (entryFrame m #[(.ref a1), .null, (.int p3), (.int p4)] 9)) t := by
          intro t k
          refine pre2 t ?_
          show Steps p.tables e below (T5.setTop (mkF m 55 #[.val (.ref a1), .val .null, .val (.int p3), .val (.int p4), .val (.long j4), .second, .val (.int i6), .val (.int i7), s8] [(.int i7)])) _
          refine XS.ifNo X5.here hx rfl (hb hby d7_55) rfl ((if0 _ _).trans (flt hc55).1) ?_
          show Steps p.tables e below (T5.setTop (mkF m 58 #[.val (.ref a1), .val .null, .val (.int p3), .val (.int p4), .val (.long j4), .second, .val (.int i6), .val (.int i7), s8] [])) _
          refine XS.aloadN X5.here hx rfl (hb hby d7_58) rfl rfl ?_
          show Steps p.tables e below (T5.setTop (mkF m 59 #[.val (.ref a1), .val .null, .val (.int p3), .val (.int p4), .val (.long j4), .second, .val (.int i6), .val (.int i7), s8] [(.ref a1)])) _
          refine XS.iloadN X5.here hx rfl (hb hby d7_59) rfl ?_
          show Steps p.tables e below (T5.setTop (mkF m 60 #[.val (.ref a1), .val .null, .val (.int p3), .val (.int p4), .val (.long j4), .second, .val (.int i6), .val (.int i7), s8] [(.int p3), (.ref a1)])) _
          refine XS.iload X5.here hx rfl (hb hby d7_60) rfl ?_
          show Steps p.tables e below (T5.setTop (mkF m 62 #[.val (.ref a1), .val .null, .val (.int p3), .val (.int p4), .val (.long j4), .second, .val (.int i6), .val (.int i7), s8] [(.int i7), (.int p3), (.ref a1)])) _
          refine XS.iadd X5.here hx rfl (hb hby d7_62) rfl ?_
          show Steps p.tables e below (T5.setTop (mkF m 63 #[.val (.ref a1), .val .null, .val (.int p3), .val (.int p4), .val (.long j4), .second, .val (.int i6), .val (.int i7), s8] [(.int (p3 + i7)), (.ref a1)])) _
          refine st6.trans ?_
          show Steps p.tables e below (T6.setTop (mkF m 66 #[.val (.ref a1), .val .null, .val (.int p3), .val (.int p4), .val (.long j4), .second, .val (.int i6), .val (.int i7), s8] [(.int (f8 (p3 + i7) w_CS w_coder_a1 z_w_val c_w_val))])) _
          refine XS.istoreS X6.here hx rfl (hb hby d7_66) rfl (o := s8) rfl hs8 ?_
          show Steps p.tables e below (T6.setTop (mkF m 68 #[.val (.ref a1), .val .null, .val (.int p3), .val (.int p4), .val (.long j4), .second, .val (.int i6), .val (.int i7), .val (.int (f8 (p3 + i7) w_CS w_coder_a1 z_w_val c_w_val))] [])) _
          refine XS.iload X6.here hx rfl (hb hby d7_68) rfl ?_
          show Steps p.tables e below (T6.setTop (mkF m 70 #[.val (.ref a1), .val .null, .val (.int p3), .val (.int p4), .val (.long j4), .second, .val (.int i6), .val (.int i7), .val (.int (f8 (p3 + i7) w_CS w_coder_a1 z_w_val c_w_val))] [(.int i6)])) _
          refine XS.iload X6.here hx rfl (hb hby d7_70) rfl ?_
          show Steps p.tables e below (T6.setTop (mkF m 72 #[.val (.ref a1), .val .null, .val (.int p3), .val (.int p4), .val (.long j4), .second, .val (.int i6), .val (.int i7), .val (.int (f8 (p3 + i7) w_CS w_coder_a1 z_w_val c_w_val))] [(.int (f8 (p3 + i7) w_CS w_coder_a1 z_w_val c_w_val)), (.int i6)])) _
          refine XS.ior X6.here hx rfl (hb hby d7_72) rfl ?_
          show Steps p.tables e below (T6.setTop (mkF m 73 #[.val (.ref a1), .val .null, .val (.int p3), .val (.int p4), .val (.long j4), .second, .val (.int i6), .val (.int i7), .val (.int (f8 (p3 + i7) w_CS w_coder_a1 z_w_val c_w_val))] [(.int (i6 ||| (f8 (p3 + i7) w_CS w_coder_a1 z_w_val c_w_val)))])) _
          refine XS.istore X6.here hx rfl (hb hby d7_73) rfl (l' := #[.val (.ref a1), .val .null, .val (.int p3), .val (.int p4), .val (.long j4), .second, .val (.int (i6 ||| (f8 (p3 + i7) w_CS w_coder_a1 z_w_val c_w_val))), .val (.int i7), .val (.int (f8 (p3 + i7) w_CS w_coder_a1 z_w_val c_w_val))]) rfl ?_
          show Steps p.tables e below (T6.setTop (mkF m 75 #[.val (.ref a1), .val .null, .val (.int p3), .val (.int p4), .val (.long j4), .second, .val (.int (i6 ||| (f8 (p3 + i7) w_CS w_coder_a1 z_w_val c_w_val))), .val (.int i7), .val (.int (f8 (p3 + i7) w_CS w_coder_a1 z_w_val c_w_val))] [])) _
          refine XS.lload X6.here hx rfl (hb hby d7_75) rfl ?_
          show Steps p.tables e below (T6.setTop (mkF m 77 #[.val (.ref a1), .val .null, .val (.int p3), .val (.int p4), .val (.long j4), .second, .val (.int (i6 ||| (f8 (p3 + i7) w_CS w_coder_a1 z_w_val c_w_val))), .val (.int i7), .val (.int (f8 (p3 + i7) w_CS w_coder_a1 z_w_val c_w_val))] [(.long j4)])) _
          refine XS.bipush X6.here hx rfl (hb hby d7_77) ?_
          show Steps p.tables e below (T6.setTop (mkF m 79 #[.val (.ref a1), .val .null, .val (.int p3), .val (.int p4), .val (.long j4), .second, .val (.int (i6 ||| (f8 (p3 + i7) w_CS w_coder_a1 z_w_val c_w_val))), .val (.int i7), .val (.int (f8 (p3 + i7) w_CS w_coder_a1 z_w_val c_w_val))] [(.int (8 : Int32)), (.long j4)])) _
          refine XS.lshl X6.here hx rfl (hb hby d7_79) rfl ?_
          show Steps p.tables e below (T6.setTop (mkF m 80 #[.val (.ref a1), .val .null, .val (.int p3), .val (.int p4), .val (.long j4), .second, .val (.int (i6 ||| (f8 (p3 + i7) w_CS w_coder_a1 z_w_val c_w_val))), .val (.int i7), .val (.int (f8 (p3 + i7) w_CS w_coder_a1 z_w_val c_w_val))] [(.long (j4 <<< ((8 : Int32) &&& 0x3f).toInt64))])) _
          refine XS.iload X6.here hx rfl (hb hby d7_80) rfl ?_
          show Steps p.tables e below (T6.setTop (mkF m 82 #[.val (.ref a1), .val .null, .val (.int p3), .val (.int p4), .val (.long j4), .second, .val (.int (i6 ||| (f8 (p3 + i7) w_CS w_coder_a1 z_w_val c_w_val))), .val (.int i7), .val (.int (f8 (p3 + i7) w_CS w_coder_a1 z_w_val c_w_val))] [(.int (f8 (p3 + i7) w_CS w_coder_a1 z_w_val c_w_val)), (.long (j4 <<< ((8 : Int32) &&& 0x3f).toInt64))])) _
          refine XS.i2l X6.here hx rfl (hb hby d7_82) rfl ?_
          show Steps p.tables e below (T6.setTop (mkF m 83 #[.val (.ref a1), .val .null, .val (.int p3), .val (.int p4), .val (.long j4), .second, .val (.int (i6 ||| (f8 (p3 + i7) w_CS w_coder_a1 z_w_val c_w_val))), .val (.int i7), .val (.int (f8 (p3 + i7) w_CS w_coder_a1 z_w_val c_w_val))] [(.long ((f8 (p3 + i7) w_CS w_coder_a1 z_w_val c_w_val).toInt64)), (.long (j4 <<< ((8 : Int32) &&& 0x3f).toInt64))])) _
          refine XS.lor X6.here hx rfl (hb hby d7_83) rfl ?_
          show Steps p.tables e below (T6.setTop (mkF m 84 #[.val (.ref a1), .val .null, .val (.int p3), .val (.int p4), .val (.long j4), .second, .val (.int (i6 ||| (f8 (p3 + i7) w_CS w_coder_a1 z_w_val c_w_val))), .val (.int i7), .val (.int (f8 (p3 + i7) w_CS w_coder_a1 z_w_val c_w_val))] [(.long ((j4 <<< ((8 : Int32) &&& 0x3f).toInt64) ||| ((f8 (p3 + i7) w_CS w_coder_a1 z_w_val c_w_val).toInt64)))])) _
          refine XS.lstore X6.here hx rfl (hb hby d7_84) rfl (l' := #[.val (.ref a1), .val .null, .val (.int p3), .val (.int p4), .val (.long ((j4 <<< ((8 : Int32) &&& 0x3f).toInt64) ||| ((f8 (p3 + i7) w_CS w_coder_a1 z_w_val c_w_val).toInt64))), .second, .val (.int (i6 ||| (f8 (p3 + i7) w_CS w_coder_a1 z_w_val c_w_val))), .val (.int i7), .val (.int (f8 (p3 + i7) w_CS w_coder_a1 z_w_val c_w_val))]) rfl ?_
          show Steps p.tables e below (T6.setTop (mkF m 86 #[.val (.ref a1), .val .null, .val (.int p3), .val (.int p4), .val (.long ((j4 <<< ((8 : Int32) &&& 0x3f).toInt64) ||| ((f8 (p3 + i7) w_CS w_coder_a1 z_w_val c_w_val).toInt64))), .second, .val (.int (i6 ||| (f8 (p3 + i7) w_CS w_coder_a1 z_w_val c_w_val))), .val (.int i7), .val (.int (f8 (p3 + i7) w_CS w_coder_a1 z_w_val c_w_val))] [])) _
          refine XS.iinc X6.here hx rfl (hb hby d7_86) rfl (l' := #[.val (.ref a1), .val .null, .val (.int p3), .val (.int p4), .val (.long ((j4 <<< ((8 : Int32) &&& 0x3f).toInt64) ||| ((f8 (p3 + i7) w_CS w_coder_a1 z_w_val c_w_val).toInt64))), .second, .val (.int (i6 ||| (f8 (p3 + i7) w_CS w_coder_a1 z_w_val c_w_val))), .val (.int (i7 + (-1 : Int32))), .val (.int (f8 (p3 + i7) w_CS w_coder_a1 z_w_val c_w_val))]) rfl ?_
          show Steps p.tables e below (T6.setTop (mkF m 89 #[.val (.ref a1), .val .null, .val (.int p3), .val (.int p4), .val (.long ((j4 <<< ((8 : Int32) &&& 0x3f).toInt64) ||| ((f8 (p3 + i7) w_CS w_coder_a1 z_w_val c_w_val).toInt64))), .second, .val (.int (i6 ||| (f8 (p3 + i7) w_CS w_coder_a1 z_w_val c_w_val))), .val (.int (i7 + (-1 : Int32))), .val (.int (f8 (p3 + i7) w_CS w_coder_a1 z_w_val c_w_val))] [])) _
          refine XS.goto X6.here hx rfl (pc0 := 89) (pc' := 53) rfl (hb hby d7_89) (by decide) (by decide) ?_
          exact k
        exact ih ((j4 <<< ((8 : Int32) &&& 0x3f).toInt64) ||| ((f8 (p3 + i7) w_CS w_coder_a1 z_w_val c_w_val).toInt64)) (i6 ||| (f8 (p3 + i7) w_CS w_coder_a1 z_w_val c_w_val)) (i7 + (-1 : Int32)) (.val (.int (f8 (p3 + i7) w_CS w_coder_a1 z_w_val c_w_val))) T6 _  (One.val rfl) (own_n2 hI hc55) X6 e6 N6  (eq6).symm pre7
  exact loop53 10 (0 : Int64) (0 : Int32) (p4 - (1 : Int32)) .unset s₁ _  (One.u) (own_n3 hst) X0 e0 N0 (rfl) pre1
theorem d7_7 : decode prog_14_method_3_code 7 = .ok (.iload_n 3, 1) := by decide +kernel
theorem d7_8 : decode prog_14_method_3_code 8 = .ok (.iconst 1, 1) := by decide +kernel
theorem d7_9 : decode prog_14_method_3_code 9 = .ok (.isub, 1) := by decide +kernel
theorem d7_10 : decode prog_14_method_3_code 10 = .ok (.istore 6, 2) := by decide +kernel
theorem d7_12 : decode prog_14_method_3_code 12 = .ok (.iload 6, 2) := by decide +kernel
theorem d7_14 : decode prog_14_method_3_code 14 = .ok (.ifCond .lt 28, 3) := by decide +kernel
theorem d7_17 : decode prog_14_method_3_code 17 = .ok (.lload 4, 2) := by decide +kernel
theorem d7_19 : decode prog_14_method_3_code 19 = .ok (.bipush 8, 2) := by decide +kernel
theorem d7_21 : decode prog_14_method_3_code 21 = .ok (.lshl, 1) := by decide +kernel
theorem d7_22 : decode prog_14_method_3_code 22 = .ok (.aload_n 1, 1) := by decide +kernel
theorem d7_23 : decode prog_14_method_3_code 23 = .ok (.iload_n 2, 1) := by decide +kernel
theorem d7_24 : decode prog_14_method_3_code 24 = .ok (.iload 6, 2) := by decide +kernel
theorem d7_26 : decode prog_14_method_3_code 26 = .ok (.iadd, 1) := by decide +kernel
theorem d7_27 : decode prog_14_method_3_code 27 = .ok (.baload, 1) := by decide +kernel
theorem d7_28 : decode prog_14_method_3_code 28 = .ok (.i2l, 1) := by decide +kernel
theorem d7_29 : decode prog_14_method_3_code 29 = .ok (.ldc2_w 28, 3) := by decide +kernel
theorem d7_32 : decode prog_14_method_3_code 32 = .ok (.land, 1) := by decide +kernel
theorem d7_33 : decode prog_14_method_3_code 33 = .ok (.lor, 1) := by decide +kernel
theorem d7_34 : decode prog_14_method_3_code 34 = .ok (.lstore 4, 2) := by decide +kernel
theorem d7_36 : decode prog_14_method_3_code 36 = .ok (.iinc 6 (-1), 3) := by decide +kernel
theorem d7_39 : decode prog_14_method_3_code 39 = .ok (.goto (-27), 3) := by decide +kernel
theorem d7_42 : decode prog_14_method_3_code 42 = .ok (.goto 68, 3) := by decide +kernel
theorem ef_7b (m : MethodId) (x0 : Addr) (x1 : Addr) (x2 : Int32) (x3 : Int32) : entryFrame m #[(.ref x0), (.ref x1), (.int x2), (.int x3)] 9 = mkF m 0 #[.val (.ref x0), .val (.ref x1), .val (.int x2), .val (.int x3), .unset, .unset, .unset, .unset, .unset] [] := by first | (simp [entryFrame, mkF, argsToLocals, Value.category]; done) | rfl
def g7b_12 (p3 : Int32) (p4 : Int32) (z_a2 : Int32) (c_a2 : Nat → Int32) : Nat → Int64 → Int32 → Int64
  | 0, _, _ => 0
  | k + 1, j4, i6 => (if i6 < (0 : Int32) then j4 else (g7b_12 p3 p4 z_a2 c_a2 k ((j4 <<< ((8 : Int32) &&& 0x3f).toInt64) ||| (((c_a2 ((p3 + i6)).toNatClampNeg).toInt64) &&& (255 : Int64))) (i6 + (-1 : Int32))))
def f7b (p3 : Int32) (p4 : Int32) (z_a2 : Int32) (c_a2 : Nat → Int32) : Int64 := (g7b_12 p3 p4 z_a2 c_a2 (10) (0 : Int64) (p4 - (1 : Int32)))
def Q7b (Z : State) (a1 : Addr) (a2 : Addr) (p3 : Int32) (p4 : Int32) (z_a2 : Int32) (c_a2 : Nat → Int32) (h0 : Heap) (n0 : Nat) (v : Option Value) (h : Heap) (L : List Loc) : Prop := v = some (.long (f7b p3 p4 z_a2 c_a2)) ∧ Fr n0 L ∧ h = h0
set_option maxRecDepth 65536 in
set_option maxHeartbeats 40000000 in
theorem rm7b (l : Launch) (Z : State) (a0 : Array Value) (hw : ∀ d ∈ tables_1, d.before a0 Z = true) (ws : List Jvm.Cond) (a1 : Addr) (a2 : Addr) (p3 : Int32) (p4 : Int32) (z_a2 : Int32) (c_a2 : Nat → Int32) (h0 : Heap) (n0 : Nat) (Z0 : n0 ≤ h0.size) (V_a2 : IAr Z h0 a2 .byte z_a2 c_a2) (hst : 0 ≤ p3.toInt ∧ p3.toInt ≤ 3 ∧ 0 ≤ p4.toInt ∧ p4.toInt ≤ 8 ∧ z_a2 = 12) :
    MetFree l (⟨"com/example/ringward/ringward/Utf8", "littleEndian", "(Ljava/lang/String;[BII)J"⟩ : MethodName) (head1 (Jvm.Cond.code (⟨"com/example/ringward/ringward/Utf8", "littleEndian", "(Ljava/lang/String;[BII)J"⟩ : MethodName) prog_14_method_3_code 9 (some .long) :: ws) ({ frames := 0, cells := 0, slots := 0, locals := 0 } : Room)) (fun a U => a = #[(.ref a1), (.ref a2), (.int p3), (.int p4)] ∧ Z.Warmed39 U.vm ∧ U.heap = h0) (fun _ _ _ _ _ => True) (fun _ U o U' => ∃ v L, o = .returned v ∧ Q7b Z a1 a2 p3 p4 z_a2 c_a2 h0 n0 v U'.heap L ∧ FrameEnd U o U' L ({ frames := 0, cells := 0, slots := 0, locals := 0 } : Room).cells ({ frames := 0, cells := 0, slots := 0, locals := 0 } : Room).slots) := by
  refine MetFree.of_bodySF (plainFor_of_name pn_4) hisR ?_
  intro p e s m args below meth c s₁ Bd hml0 hP hK
  obtain ⟨rfl, hZ, hh⟩ := hP
  have hx := Bd.exec
  have hby := Bd.bytes
  have hml : c.maxLocals = 9 := hml0
  have hown : s.vm.findClass "com/example/ringward/ringward/Utf8" = some m.cls := findClass_of_methodNamed Bd.named
  have hnm := (name_of_methodNamed Bd.named Bd.method).1
  have X0 : Stand p l e ({ frames := 0, cells := 0, slots := 0, locals := 0 } : Room) s m #[(.ref a1), (.ref a2), (.int p3), (.int p4)] below meth c s₁ [] 0 0 := Stand.of_body Bd
  have e0 : s₁.heap = h0 := by rw [← hh, Bd.state]; rfl
  have N0 := Fr.nil n0
  have pre0 : ∀ t, Steps p.tables e below (s₁.setTop (mkF m 0 #[.val (.ref a1), .val (.ref a2), .val (.int p3), .val (.int p4), .unset, .unset, .unset, .unset, .unset] [])) t → Steps p.tables e below (s₁.setTop (entryFrame m #[(.ref a1), (.ref a2), (.int p3), (.int p4)] 9)) t := fun t k => castTop (ef_7b m a1 a2 p3 p4) k
  have pre1 : ∀ t, Steps p.tables e below (s₁.setTop (mkF m 12 #[.val (.ref a1), .val (.ref a2), .val (.int p3), .val (.int p4), .val (.long (0 : Int64)), .second, .val (.int (p4 - (1 : Int32))), .unset, .unset] [])) t → Steps p.tables e below (s₁.setTop (entryFrame m #[(.ref a1), (.ref a2), (.int p3), (.int p4)] 9)) t := by
    intro t k
    refine pre0 t ?_
    show Steps p.tables e below (s₁.setTop (mkF m 0 #[.val (.ref a1), .val (.ref a2), .val (.int p3), .val (.int p4), .unset, .unset, .unset, .unset, .unset] [])) _
    refine XS.lconst X0.here hx rfl (hb hby d7_0) ?_
    show Steps p.tables e below (s₁.setTop (mkF m 1 #[.val (.ref a1), .val (.ref a2), .val (.int p3), .val (.int p4), .unset, .unset, .unset, .unset, .unset] [(.long (0 : Int64))])) _
    refine XS.lstore X0.here hx rfl (hb hby d7_1) rfl (l' := #[.val (.ref a1), .val (.ref a2), .val (.int p3), .val (.int p4), .val (.long (0 : Int64)), .second, .unset, .unset, .unset]) rfl ?_
    show Steps p.tables e below (s₁.setTop (mkF m 3 #[.val (.ref a1), .val (.ref a2), .val (.int p3), .val (.int p4), .val (.long (0 : Int64)), .second, .unset, .unset, .unset] [])) _
    refine XS.aloadN X0.here hx rfl (hb hby d7_3) rfl rfl ?_
    show Steps p.tables e below (s₁.setTop (mkF m 4 #[.val (.ref a1), .val (.ref a2), .val (.int p3), .val (.int p4), .val (.long (0 : Int64)), .second, .unset, .unset, .unset] [(.ref a2)])) _
    refine XS.ifnullNo X0.here hx rfl (hb hby d7_4) rfl ?_
    show Steps p.tables e below (s₁.setTop (mkF m 7 #[.val (.ref a1), .val (.ref a2), .val (.int p3), .val (.int p4), .val (.long (0 : Int64)), .second, .unset, .unset, .unset] [])) _
    refine XS.iloadN X0.here hx rfl (hb hby d7_7) rfl ?_
    show Steps p.tables e below (s₁.setTop (mkF m 8 #[.val (.ref a1), .val (.ref a2), .val (.int p3), .val (.int p4), .val (.long (0 : Int64)), .second, .unset, .unset, .unset] [(.int p4)])) _
    refine XS.iconst X0.here hx rfl (hb hby d7_8) ?_
    show Steps p.tables e below (s₁.setTop (mkF m 9 #[.val (.ref a1), .val (.ref a2), .val (.int p3), .val (.int p4), .val (.long (0 : Int64)), .second, .unset, .unset, .unset] [(.int (1 : Int32)), (.int p4)])) _
    refine XS.isub X0.here hx rfl (hb hby d7_9) rfl ?_
    show Steps p.tables e below (s₁.setTop (mkF m 10 #[.val (.ref a1), .val (.ref a2), .val (.int p3), .val (.int p4), .val (.long (0 : Int64)), .second, .unset, .unset, .unset] [(.int (p4 - (1 : Int32)))])) _
    refine XS.istore X0.here hx rfl (hb hby d7_10) rfl (l' := #[.val (.ref a1), .val (.ref a2), .val (.int p3), .val (.int p4), .val (.long (0 : Int64)), .second, .val (.int (p4 - (1 : Int32))), .unset, .unset]) rfl ?_
    exact k
  have loop12 : ∀ (k : Nat) (j4 : Int64) (i6 : Int32) (T5 : State) (LT5 : List Loc), -1 ≤ i6.toInt ∧ i6.toInt < 8 ∧ i6.toInt + 1 < (k : Int) → Stand p l e ({ frames := 0, cells := 0, slots := 0, locals := 0 } : Room) s m #[(.ref a1), (.ref a2), (.int p3), (.int p4)] below meth c T5 LT5 0 0 → T5.heap = h0 → Fr n0 LT5 → (g7b_12 p3 p4 z_a2 c_a2 k j4 i6) = (f7b p3 p4 z_a2 c_a2) → (∀ t, Steps p.tables e below (T5.setTop (mkF m 12 #[.val (.ref a1), .val (.ref a2), .val (.int p3), .val (.int p4), .val (.long j4), .second, .val (.int i6), .unset, .unset] [])) t → Steps p.tables e below (s₁.setTop (entryFrame m #[(.ref a1), (.ref a2), (.int p3), (.int p4)] 9)) t) → ∃ s₂ o, Steps p.tables e below (s₁.setTop (entryFrame m #[(.ref a1), (.ref a2), (.int p3), (.int p4)] 9)) s₂ ∧ s₂.status = .running ∧ Ended s₂ below o ∧ ∃ v L, o = .returned v ∧ Q7b Z a1 a2 p3 p4 z_a2 c_a2 h0 n0 v s₂.heap L ∧ FrameEnd s o s₂ L ({ frames := 0, cells := 0, slots := 0, locals := 0 } : Room).cells ({ frames := 0, cells := 0, slots := 0, locals := 0 } : Room).slots := by
    intro k
    induction k with
    | zero => intro j4 i6 T5 LT5 hI X5 e5 N5 hg0 preL; exact absurd hI (by omega)
    | succ k ih =>
      intro j4 i6 T5 LT5 hI X5 e5 N5 hg0 preL
      have pre2 : ∀ t, Steps p.tables e below (T5.setTop (mkF m 14 #[.val (.ref a1), .val (.ref a2), .val (.int p3), .val (.int p4), .val (.long j4), .second, .val (.int i6), .unset, .unset] [(.int i6)])) t → Steps p.tables e below (s₁.setTop (entryFrame m #[(.ref a1), (.ref a2), (.int p3), (.int p4)] 9)) t := by
        intro t k
        refine preL t ?_
        show Steps p.tables e below (T5.setTop (mkF m 12 #[.val (.ref a1), .val (.ref a2), .val (.int p3), .val (.int p4), .val (.long j4), .second, .val (.int i6), .unset, .unset] [])) _
        refine XS.iload X5.here hx rfl (hb hby d7_12) rfl ?_
        exact k
      by_cases hc14 : i6 < (0 : Int32)
      · have eq3 : (f7b p3 p4 z_a2 c_a2) = j4 := by rw [← hg0]; simp only [g7b_12, if_pos hc14]
        obtain ⟨fs, hr, hrun, hended, hW, hsame⟩ := X5.leave (v := some (.long j4)) (fun h => by rw [Bd.returns] at h; cases h)
        refine ⟨_, _, pre2 _ ?_, hrun, hended, _, _, rfl, ?_, ⟨_, rfl⟩, hW, hsame.mono (by decide) (by decide)⟩
        · show Steps p.tables e below (T5.setTop (mkF m 14 #[.val (.ref a1), .val (.ref a2), .val (.int p3), .val (.int p4), .val (.long j4), .second, .val (.int i6), .unset, .unset] [(.int i6)])) _
          refine XS.ifYes X5.here hx rfl (pc0 := 14) (pc' := 42) rfl (hb hby d7_14) rfl ((if0 _ _).trans (tlt hc14).1) (by decide) (by decide) ?_
          show Steps p.tables e below (T5.setTop (mkF m 42 #[.val (.ref a1), .val (.ref a2), .val (.int p3), .val (.int p4), .val (.long j4), .second, .val (.int i6), .unset, .unset] [])) _
          refine XS.goto X5.here hx rfl (pc0 := 42) (pc' := 110) rfl (hb hby d7_42) (by decide) (by decide) ?_
          show Steps p.tables e below (T5.setTop (mkF m 110 #[.val (.ref a1), .val (.ref a2), .val (.int p3), .val (.int p4), .val (.long j4), .second, .val (.int i6), .unset, .unset] [])) _
          refine XS.lload X5.here hx rfl (hb hby d7_110) rfl ?_
          show Steps p.tables e below (T5.setTop (mkF m 112 #[.val (.ref a1), .val (.ref a2), .val (.int p3), .val (.int p4), .val (.long j4), .second, .val (.int i6), .unset, .unset] [(.long j4)])) _
          exact X5.lreturnOut hx Bd.returns (hb hby d7_112) hr
        · show Q7b Z a1 a2 p3 p4 z_a2 c_a2 h0 n0 _ T5.heap _
          rw [e5]
          exact ⟨by rw [eq3], N5, rfl⟩
      · have eq4 : (f7b p3 p4 z_a2 c_a2) = (g7b_12 p3 p4 z_a2 c_a2 k ((j4 <<< ((8 : Int32) &&& 0x3f).toInt64) ||| (((c_a2 ((p3 + i6)).toNatClampNeg).toInt64) &&& (255 : Int64))) (i6 + (-1 : Int32))) := by rw [← hg0]; simp only [g7b_12, if_neg hc14]
        have pre5 : ∀ t, Steps p.tables e below (T5.setTop (mkF m 12 #[.val (.ref a1), .val (.ref a2), .val (.int p3), .val (.int p4), .val (.long ((j4 <<< ((8 : Int32) &&& 0x3f).toInt64) ||| (((c_a2 ((p3 + i6)).toNatClampNeg).toInt64) &&& (255 : Int64)))), .second, .val (.int (i6 + (-1 : Int32))), .unset, .unset] [])) t → Steps p.tables e below (s₁.setTop (entryFrame m #[(.ref a1), (.ref a2), (.int p3), (.int p4)] 9)) t := by
          intro t k
          refine pre2 t ?_
          show Steps p.tables e below (T5.setTop (mkF m 14 #[.val (.ref a1), .val (.ref a2), .val (.int p3), .val (.int p4), .val (.long j4), .second, .val (.int i6), .unset, .unset] [(.int i6)])) _
          refine XS.ifNo X5.here hx rfl (hb hby d7_14) rfl ((if0 _ _).trans (flt hc14).1) ?_
          show Steps p.tables e below (T5.setTop (mkF m 17 #[.val (.ref a1), .val (.ref a2), .val (.int p3), .val (.int p4), .val (.long j4), .second, .val (.int i6), .unset, .unset] [])) _
          refine XS.lload X5.here hx rfl (hb hby d7_17) rfl ?_
          show Steps p.tables e below (T5.setTop (mkF m 19 #[.val (.ref a1), .val (.ref a2), .val (.int p3), .val (.int p4), .val (.long j4), .second, .val (.int i6), .unset, .unset] [(.long j4)])) _
          refine XS.bipush X5.here hx rfl (hb hby d7_19) ?_
          show Steps p.tables e below (T5.setTop (mkF m 21 #[.val (.ref a1), .val (.ref a2), .val (.int p3), .val (.int p4), .val (.long j4), .second, .val (.int i6), .unset, .unset] [(.int (8 : Int32)), (.long j4)])) _
          refine XS.lshl X5.here hx rfl (hb hby d7_21) rfl ?_
          show Steps p.tables e below (T5.setTop (mkF m 22 #[.val (.ref a1), .val (.ref a2), .val (.int p3), .val (.int p4), .val (.long j4), .second, .val (.int i6), .unset, .unset] [(.long (j4 <<< ((8 : Int32) &&& 0x3f).toInt64))])) _
          refine XS.aloadN X5.here hx rfl (hb hby d7_22) rfl rfl ?_
          show Steps p.tables e below (T5.setTop (mkF m 23 #[.val (.ref a1), .val (.ref a2), .val (.int p3), .val (.int p4), .val (.long j4), .second, .val (.int i6), .unset, .unset] [(.ref a2), (.long (j4 <<< ((8 : Int32) &&& 0x3f).toInt64))])) _
          refine XS.iloadN X5.here hx rfl (hb hby d7_23) rfl ?_
          show Steps p.tables e below (T5.setTop (mkF m 24 #[.val (.ref a1), .val (.ref a2), .val (.int p3), .val (.int p4), .val (.long j4), .second, .val (.int i6), .unset, .unset] [(.int p3), (.ref a2), (.long (j4 <<< ((8 : Int32) &&& 0x3f).toInt64))])) _
          refine XS.iload X5.here hx rfl (hb hby d7_24) rfl ?_
          show Steps p.tables e below (T5.setTop (mkF m 26 #[.val (.ref a1), .val (.ref a2), .val (.int p3), .val (.int p4), .val (.long j4), .second, .val (.int i6), .unset, .unset] [(.int i6), (.int p3), (.ref a2), (.long (j4 <<< ((8 : Int32) &&& 0x3f).toInt64))])) _
          refine XS.iadd X5.here hx rfl (hb hby d7_26) rfl ?_
          show Steps p.tables e below (T5.setTop (mkF m 27 #[.val (.ref a1), .val (.ref a2), .val (.int p3), .val (.int p4), .val (.long j4), .second, .val (.int i6), .unset, .unset] [(.int (p3 + i6)), (.ref a2), (.long (j4 <<< ((8 : Int32) &&& 0x3f).toInt64))])) _
          refine ldB X5 hx hZ e5 V_a2 (j := (p3 + i6)) (own_b1 hI hst hc14) (g := (mkF m 27 #[.val (.ref a1), .val (.ref a2), .val (.int p3), .val (.int p4), .val (.long j4), .second, .val (.int i6), .unset, .unset] [(.int (p3 + i6)), (.ref a2), (.long (j4 <<< ((8 : Int32) &&& 0x3f).toInt64))])) rfl rfl (hb hby d7_27) ?_
          show Steps p.tables e below (T5.setTop (mkF m 28 #[.val (.ref a1), .val (.ref a2), .val (.int p3), .val (.int p4), .val (.long j4), .second, .val (.int i6), .unset, .unset] [(.int (c_a2 ((p3 + i6)).toNatClampNeg)), (.long (j4 <<< ((8 : Int32) &&& 0x3f).toInt64))])) _
          refine XS.i2l X5.here hx rfl (hb hby d7_28) rfl ?_
          show Steps p.tables e below (T5.setTop (mkF m 29 #[.val (.ref a1), .val (.ref a2), .val (.int p3), .val (.int p4), .val (.long j4), .second, .val (.int i6), .unset, .unset] [(.long ((c_a2 ((p3 + i6)).toNatClampNeg).toInt64)), (.long (j4 <<< ((8 : Int32) &&& 0x3f).toInt64))])) _
          refine X5.ldc2Long hx hown (mvT hZ (hw _ (List.mem_of_getElem? (i := 60) rfl))) (g := (mkF m 29 #[.val (.ref a1), .val (.ref a2), .val (.int p3), .val (.int p4), .val (.long j4), .second, .val (.int i6), .unset, .unset] [(.long ((c_a2 ((p3 + i6)).toNatClampNeg).toInt64)), (.long (j4 <<< ((8 : Int32) &&& 0x3f).toInt64))])) rfl (hb hby d7_29) _ ?_
          show Steps p.tables e below (T5.setTop (mkF m 32 #[.val (.ref a1), .val (.ref a2), .val (.int p3), .val (.int p4), .val (.long j4), .second, .val (.int i6), .unset, .unset] [(.long (255 : Int64)), (.long ((c_a2 ((p3 + i6)).toNatClampNeg).toInt64)), (.long (j4 <<< ((8 : Int32) &&& 0x3f).toInt64))])) _
          refine XS.land X5.here hx rfl (hb hby d7_32) rfl ?_
          show Steps p.tables e below (T5.setTop (mkF m 33 #[.val (.ref a1), .val (.ref a2), .val (.int p3), .val (.int p4), .val (.long j4), .second, .val (.int i6), .unset, .unset] [(.long (((c_a2 ((p3 + i6)).toNatClampNeg).toInt64) &&& (255 : Int64))), (.long (j4 <<< ((8 : Int32) &&& 0x3f).toInt64))])) _
          refine XS.lor X5.here hx rfl (hb hby d7_33) rfl ?_
          show Steps p.tables e below (T5.setTop (mkF m 34 #[.val (.ref a1), .val (.ref a2), .val (.int p3), .val (.int p4), .val (.long j4), .second, .val (.int i6), .unset, .unset] [(.long ((j4 <<< ((8 : Int32) &&& 0x3f).toInt64) ||| (((c_a2 ((p3 + i6)).toNatClampNeg).toInt64) &&& (255 : Int64))))])) _
          refine XS.lstore X5.here hx rfl (hb hby d7_34) rfl (l' := #[.val (.ref a1), .val (.ref a2), .val (.int p3), .val (.int p4), .val (.long ((j4 <<< ((8 : Int32) &&& 0x3f).toInt64) ||| (((c_a2 ((p3 + i6)).toNatClampNeg).toInt64) &&& (255 : Int64)))), .second, .val (.int i6), .unset, .unset]) rfl ?_
          show Steps p.tables e below (T5.setTop (mkF m 36 #[.val (.ref a1), .val (.ref a2), .val (.int p3), .val (.int p4), .val (.long ((j4 <<< ((8 : Int32) &&& 0x3f).toInt64) ||| (((c_a2 ((p3 + i6)).toNatClampNeg).toInt64) &&& (255 : Int64)))), .second, .val (.int i6), .unset, .unset] [])) _
          refine XS.iinc X5.here hx rfl (hb hby d7_36) rfl (l' := #[.val (.ref a1), .val (.ref a2), .val (.int p3), .val (.int p4), .val (.long ((j4 <<< ((8 : Int32) &&& 0x3f).toInt64) ||| (((c_a2 ((p3 + i6)).toNatClampNeg).toInt64) &&& (255 : Int64)))), .second, .val (.int (i6 + (-1 : Int32))), .unset, .unset]) rfl ?_
          show Steps p.tables e below (T5.setTop (mkF m 39 #[.val (.ref a1), .val (.ref a2), .val (.int p3), .val (.int p4), .val (.long ((j4 <<< ((8 : Int32) &&& 0x3f).toInt64) ||| (((c_a2 ((p3 + i6)).toNatClampNeg).toInt64) &&& (255 : Int64)))), .second, .val (.int (i6 + (-1 : Int32))), .unset, .unset] [])) _
          refine XS.goto X5.here hx rfl (pc0 := 39) (pc' := 12) rfl (hb hby d7_39) (by decide) (by decide) ?_
          exact k
        exact ih ((j4 <<< ((8 : Int32) &&& 0x3f).toInt64) ||| (((c_a2 ((p3 + i6)).toNatClampNeg).toInt64) &&& (255 : Int64))) (i6 + (-1 : Int32)) T5 _  (own_n2 hI hc14) X5 e5 N5  (eq4).symm pre5
  exact loop12 10 (0 : Int64) (p4 - (1 : Int32)) s₁ _   (own_n3 hst) X0 e0 N0 (rfl) pre1
theorem pd_14 : parseMethodDescriptor "([C)V" = some ⟨[(.array .char)], none⟩ := by decide +kernel
theorem pd_15 : parseMethodDescriptor "(Ljava/lang/String;[BII)J" = some ⟨[(.object "java/lang/String"), (.array .byte), .int, .int], some .long⟩ := by decide +kernel
theorem pn_5 : plainName "com/example/ringward/ringward/Utf8LittleEndianPinLaw" = true := by first | (simp [plainName, overriddenIn]; done) | decide +kernel
theorem ef_0 (m : MethodId) (x0 : Int64) (x1 : Int32) (x2 : Int32) (x3 : Int32) (x4 : Int32) (x5 : Int32) : entryFrame m #[(.long x0), (.int x1), (.int x2), (.int x3), (.int x4), (.int x5)] maxLocals = mkF m 0 #[.val (.long x0), .second, .val (.int x1), .val (.int x2), .val (.int x3), .val (.int x4), .val (.int x5), .unset, .unset, .unset, .unset, .unset, .unset, .unset, .unset, .unset, .unset, .unset, .unset, .unset, .unset, .unset, .unset, .unset, .unset] [] := by first | (simp [entryFrame, mkF, argsToLocals, Value.category, maxLocals]; done) | rfl
def f0_v6 (p4 : Int32) : Int32 := ((p4 &&& (2147483647 : Int32)) - ((p4 &&& (2147483647 : Int32)) / (4 : Int32)) * (4 : Int32))
def f0_v16 (p5 : Int32) : Int32 := ((p5 &&& (2147483647 : Int32)) - ((p5 &&& (2147483647 : Int32)) / (9 : Int32)) * (9 : Int32))
def f0_s0_31 (p6 : Int32) : Int32 := (if (p6 &&& (1 : Int32)) = (0 : Int32) then (0 : Int32) else (1 : Int32))
def f0_s0_45 (p6 : Int32) : Int32 := (if (p6 &&& (2 : Int32)) = (0 : Int32) then (0 : Int32) else (1 : Int32))
def f0_v54 (p6 : Int32) : Int32 := (((p6.toUInt32 >>> ((2 : Int32) &&& 31).toUInt32).toInt32) &&& (7 : Int32))
def f0_s0_78 (p5 : Int32) : Int64 := (if (f0_v16 p5) = (8 : Int32) then (-1 : Int64) else (((1 : Int64) <<< (((8 : Int32) * (f0_v16 p5)) &&& 0x3f).toInt64) - (1 : Int64)))
def f0_s0_113 (p3 : Int32) : Int32 := (if (p3 &&& (65535 : Int32)) < (128 : Int32) then ((p3 &&& (65535 : Int32)) + (128 : Int32)) else (p3 &&& (65535 : Int32)))
def f0_v133 (p2 : Int32) : Nat → Int32 := (ownU (fun _ => 0) ((0 : Int32)).toNatClampNeg (nar .byte (p2.toInt8.toInt32)))
def f0_v139 (p2 : Int32) : Nat → Int32 := (ownU (f0_v133 p2) ((1 : Int32)).toNatClampNeg (nar .byte (p2.toInt8.toInt32)))
def f0_v145 (p2 : Int32) : Nat → Int32 := (ownU (f0_v139 p2) ((2 : Int32)).toNatClampNeg (nar .byte (p2.toInt8.toInt32)))
def f0_v152 (p2 : Int32) : Nat → Int32 := (ownU (f0_v145 p2) ((8 : Int32)).toNatClampNeg (nar .byte (p2.toInt8.toInt32)))
def f0_v159 (p2 : Int32) : Nat → Int32 := (ownU (f0_v152 p2) ((9 : Int32)).toNatClampNeg (nar .byte (p2.toInt8.toInt32)))
def f0_v166 (p2 : Int32) : Nat → Int32 := (ownU (f0_v159 p2) ((10 : Int32)).toNatClampNeg (nar .byte (p2.toInt8.toInt32)))
def f0_v173 (p2 : Int32) : Nat → Int32 := (ownU (f0_v166 p2) ((11 : Int32)).toNatClampNeg (nar .byte (p2.toInt8.toInt32)))
def f0_v179 (p2 : Int32) : Nat → Int32 := (ownU (fun _ => 0) ((0 : Int32)).toNatClampNeg (nar .char (p2.toUInt32.toUInt16.toUInt32.toInt32)))
def f0_v185 (p2 : Int32) : Nat → Int32 := (ownU (f0_v179 p2) ((1 : Int32)).toNatClampNeg (nar .char (p2.toUInt32.toUInt16.toUInt32.toInt32)))
def f0_v191 (p2 : Int32) : Nat → Int32 := (ownU (f0_v185 p2) ((2 : Int32)).toNatClampNeg (nar .char (p2.toUInt32.toUInt16.toUInt32.toInt32)))
def f0_v198 (p2 : Int32) : Nat → Int32 := (ownU (f0_v191 p2) ((8 : Int32)).toNatClampNeg (nar .char (p2.toUInt32.toUInt16.toUInt32.toInt32)))
def f0_v205 (p2 : Int32) : Nat → Int32 := (ownU (f0_v198 p2) ((9 : Int32)).toNatClampNeg (nar .char (p2.toUInt32.toUInt16.toUInt32.toInt32)))
def f0_v212 (p2 : Int32) : Nat → Int32 := (ownU (f0_v205 p2) ((10 : Int32)).toNatClampNeg (nar .char (p2.toUInt32.toUInt16.toUInt32.toInt32)))
def f0_v219 (p2 : Int32) : Nat → Int32 := (ownU (f0_v212 p2) ((11 : Int32)).toNatClampNeg (nar .char (p2.toUInt32.toUInt16.toUInt32.toInt32)))
def f0_v227 (q1 : Int64) (p2 : Int32) (p4 : Int32) : Nat → Int32 := (ownU (f0_v173 p2) ((f0_v6 p4)).toNatClampNeg (nar .byte ((q1.toInt32).toInt8.toInt32)))
def f0_v240 (q1 : Int64) (p2 : Int32) (p4 : Int32) : Nat → Int32 := (ownU (f0_v227 q1 p2 p4) (((f0_v6 p4) + (1 : Int32))).toNatClampNeg (nar .byte ((((q1.toUInt64 >>> ((8 : Int32) &&& 0x3f).toInt64.toUInt64).toInt64).toInt32).toInt8.toInt32)))
def f0_v253 (q1 : Int64) (p2 : Int32) (p4 : Int32) : Nat → Int32 := (ownU (f0_v240 q1 p2 p4) (((f0_v6 p4) + (2 : Int32))).toNatClampNeg (nar .byte ((((q1.toUInt64 >>> ((16 : Int32) &&& 0x3f).toInt64.toUInt64).toInt64).toInt32).toInt8.toInt32)))
def f0_v266 (q1 : Int64) (p2 : Int32) (p4 : Int32) : Nat → Int32 := (ownU (f0_v253 q1 p2 p4) (((f0_v6 p4) + (3 : Int32))).toNatClampNeg (nar .byte ((((q1.toUInt64 >>> ((24 : Int32) &&& 0x3f).toInt64.toUInt64).toInt64).toInt32).toInt8.toInt32)))
def f0_v279 (q1 : Int64) (p2 : Int32) (p4 : Int32) : Nat → Int32 := (ownU (f0_v266 q1 p2 p4) (((f0_v6 p4) + (4 : Int32))).toNatClampNeg (nar .byte ((((q1.toUInt64 >>> ((32 : Int32) &&& 0x3f).toInt64.toUInt64).toInt64).toInt32).toInt8.toInt32)))
def f0_v292 (q1 : Int64) (p2 : Int32) (p4 : Int32) : Nat → Int32 := (ownU (f0_v279 q1 p2 p4) (((f0_v6 p4) + (5 : Int32))).toNatClampNeg (nar .byte ((((q1.toUInt64 >>> ((40 : Int32) &&& 0x3f).toInt64.toUInt64).toInt64).toInt32).toInt8.toInt32)))
def f0_v306 (q1 : Int64) (p2 : Int32) (p4 : Int32) : Nat → Int32 := (ownU (f0_v292 q1 p2 p4) (((f0_v6 p4) + (6 : Int32))).toNatClampNeg (nar .byte ((((q1.toUInt64 >>> ((48 : Int32) &&& 0x3f).toInt64.toUInt64).toInt64).toInt32).toInt8.toInt32)))
def f0_v320 (q1 : Int64) (p2 : Int32) (p4 : Int32) : Nat → Int32 := (ownU (f0_v306 q1 p2 p4) (((f0_v6 p4) + (7 : Int32))).toNatClampNeg (nar .byte ((((q1.toUInt64 >>> ((56 : Int32) &&& 0x3f).toInt64.toUInt64).toInt64).toInt32).toInt8.toInt32)))
def f0_v332 (q1 : Int64) (p2 : Int32) (p4 : Int32) : Nat → Int32 := (ownU (f0_v219 p2) ((f0_v6 p4)).toNatClampNeg (nar .char (((q1 &&& (127 : Int64)).toInt32).toUInt32.toUInt16.toUInt32.toInt32)))
def f0_v349 (q1 : Int64) (p2 : Int32) (p4 : Int32) : Nat → Int32 := (ownU (f0_v332 q1 p2 p4) (((f0_v6 p4) + (1 : Int32))).toNatClampNeg (nar .char (((((q1.toUInt64 >>> ((8 : Int32) &&& 0x3f).toInt64.toUInt64).toInt64) &&& (127 : Int64)).toInt32).toUInt32.toUInt16.toUInt32.toInt32)))
def f0_v366 (q1 : Int64) (p2 : Int32) (p4 : Int32) : Nat → Int32 := (ownU (f0_v349 q1 p2 p4) (((f0_v6 p4) + (2 : Int32))).toNatClampNeg (nar .char (((((q1.toUInt64 >>> ((16 : Int32) &&& 0x3f).toInt64.toUInt64).toInt64) &&& (127 : Int64)).toInt32).toUInt32.toUInt16.toUInt32.toInt32)))
def f0_v383 (q1 : Int64) (p2 : Int32) (p4 : Int32) : Nat → Int32 := (ownU (f0_v366 q1 p2 p4) (((f0_v6 p4) + (3 : Int32))).toNatClampNeg (nar .char (((((q1.toUInt64 >>> ((24 : Int32) &&& 0x3f).toInt64.toUInt64).toInt64) &&& (127 : Int64)).toInt32).toUInt32.toUInt16.toUInt32.toInt32)))
def f0_v400 (q1 : Int64) (p2 : Int32) (p4 : Int32) : Nat → Int32 := (ownU (f0_v383 q1 p2 p4) (((f0_v6 p4) + (4 : Int32))).toNatClampNeg (nar .char (((((q1.toUInt64 >>> ((32 : Int32) &&& 0x3f).toInt64.toUInt64).toInt64) &&& (127 : Int64)).toInt32).toUInt32.toUInt16.toUInt32.toInt32)))
def f0_v417 (q1 : Int64) (p2 : Int32) (p4 : Int32) : Nat → Int32 := (ownU (f0_v400 q1 p2 p4) (((f0_v6 p4) + (5 : Int32))).toNatClampNeg (nar .char (((((q1.toUInt64 >>> ((40 : Int32) &&& 0x3f).toInt64.toUInt64).toInt64) &&& (127 : Int64)).toInt32).toUInt32.toUInt16.toUInt32.toInt32)))
def f0_v435 (q1 : Int64) (p2 : Int32) (p4 : Int32) : Nat → Int32 := (ownU (f0_v417 q1 p2 p4) (((f0_v6 p4) + (6 : Int32))).toNatClampNeg (nar .char (((((q1.toUInt64 >>> ((48 : Int32) &&& 0x3f).toInt64.toUInt64).toInt64) &&& (127 : Int64)).toInt32).toUInt32.toUInt16.toUInt32.toInt32)))
def f0_v453 (q1 : Int64) (p2 : Int32) (p4 : Int32) : Nat → Int32 := (ownU (f0_v435 q1 p2 p4) (((f0_v6 p4) + (7 : Int32))).toNatClampNeg (nar .char (((((q1.toUInt64 >>> ((56 : Int32) &&& 0x3f).toInt64.toUInt64).toInt64) &&& (127 : Int64)).toInt32).toUInt32.toUInt16.toUInt32.toInt32)))
def f0_v468 (q1 : Int64) (p2 : Int32) (p3 : Int32) (p4 : Int32) (p6 : Int32) : Nat → Int32 := (ownU (f0_v453 q1 p2 p4) (((f0_v6 p4) + (f0_v54 p6))).toNatClampNeg (nar .char ((f0_s0_113 p3).toUInt32.toUInt16.toUInt32.toInt32)))
def f0_A_b15_469 (q1 : Int64) (p2 : Int32) (p3 : Int32) (p4 : Int32) (p6 : Int32) : Nat → Int32 := (if (f0_s0_45 p6) = (0 : Int32) then (f0_v453 q1 p2 p4) else (f0_v468 q1 p2 p3 p4 p6))
def f0_l23_546 (q1 : Int64) (p5 : Int32) (p6 : Int32) : Int64 := (if (f0_s0_45 p6) = (0 : Int32) then ((q1 &&& (9187201950435737471 : Int64)) &&& (f0_s0_78 p5)) else (if (f0_v54 p6) < (f0_v16 p5) then (-1 : Int64) else ((q1 &&& (9187201950435737471 : Int64)) &&& (f0_s0_78 p5))))
theorem own_st (p : Int32) : 0 ≤ (f0_v6 p).toInt ∧ (f0_v6 p).toInt ≤ 3 := by
  unfold f0_v6
  rw [own_rem]
  have a := c_mask p 2147483647 31 (by decide) rfl
  have b := (c_irem (p &&& 2147483647) 4 4 rfl).1 (by omega)
  omega
theorem own_ct (p : Int32) : 0 ≤ (f0_v16 p).toInt ∧ (f0_v16 p).toInt ≤ 8 := by
  unfold f0_v16
  rw [own_rem]
  have a := c_mask p 2147483647 31 (by decide) rfl
  have b := (c_irem (p &&& 2147483647) 9 9 rfl).1 (by omega)
  omega
theorem own_jj (p : Int32) : 0 ≤ (f0_v54 p).toInt ∧ (f0_v54 p).toInt ≤ 7 := by
  unfold f0_v54
  have a := c_mask ((p.toUInt32 >>> ((2 : Int32) &&& 31).toUInt32).toInt32) 7 3 (by decide) rfl
  omega
theorem own_tn (p k : Int32) (h : 0 ≤ k.toInt ∧ k.toInt ≤ 8) : (f0_v6 p + k).toInt = (f0_v6 p).toInt + k.toInt := by
  have a := own_st p
  have b := c_iadd (f0_v6 p) k
  have r := rng32 (f0_v6 p + k)
  omega
theorem own_ix0 (p : Int32) : ¬ (f0_v6 p) < 0 ∧ (f0_v6 p) < 12 := by
  have a := own_st p
  rw [Int32.lt_iff_toInt_lt, Int32.lt_iff_toInt_lt, own_e0, own_e12]; omega
theorem own_ix (p k : Int32) (h : 0 ≤ k.toInt ∧ k.toInt ≤ 8) : ¬ (f0_v6 p + k) < 0 ∧ (f0_v6 p + k) < 12 := by
  have a := own_st p
  have b := own_tn p k h
  rw [Int32.lt_iff_toInt_lt, Int32.lt_iff_toInt_lt, own_e0, own_e12]; omega
theorem own_ixj (p q : Int32) : ¬ (f0_v6 p + f0_v54 q) < 0 ∧ (f0_v6 p + f0_v54 q) < 12 := own_ix p _ (by have a := own_jj q; omega)
theorem own_sc (p4 p5 : Int32) {X : Prop} (h : X) : 0 ≤ (f0_v6 p4).toInt ∧ (f0_v6 p4).toInt ≤ 3 ∧ 0 ≤ (f0_v16 p5).toInt ∧ (f0_v16 p5).toInt ≤ 8 ∧ X := ⟨(own_st p4).1, (own_st p4).2, (own_ct p5).1, (own_ct p5).2, h⟩
theorem own_chU {c : Nat → Int32} (h : ∀ i, 0 ≤ (c i).toInt ∧ (c i).toInt < 65536) (j : Nat) (x : Int32) : ∀ i, 0 ≤ (ownU c j (nar .char (x.toUInt32.toUInt16.toUInt32.toInt32)) i).toInt ∧ (ownU c j (nar .char (x.toUInt32.toUInt16.toUInt32.toInt32)) i).toInt < 65536 := by
  intro i
  unfold ownU
  split
  · exact (own_nchar x).2
  · exact h i
theorem own_c219 (p2 : Int32) : ∀ i, 0 ≤ (f0_v219 p2 i).toInt ∧ (f0_v219 p2 i).toInt < 65536 := own_chU (own_chU (own_chU (own_chU (own_chU (own_chU (own_chU (fun _ => by decide) _ _) _ _) _ _) _ _) _ _) _ _) _ _
theorem own_c453 (q1 : Int64) (p2 p4 : Int32) : ∀ i, 0 ≤ (f0_v453 q1 p2 p4 i).toInt ∧ (f0_v453 q1 p2 p4 i).toInt < 65536 := own_chU (own_chU (own_chU (own_chU (own_chU (own_chU (own_chU (own_chU (own_c219 p2) _ _) _ _) _ _) _ _) _ _) _ _) _ _) _ _
theorem own_chars (q1 : Int64) (p2 p3 p4 p6 : Int32) : ∀ i, 0 ≤ (f0_A_b15_469 q1 p2 p3 p4 p6 i).toInt ∧ (f0_A_b15_469 q1 p2 p3 p4 p6 i).toInt < 65536 := by
  unfold f0_A_b15_469
  split
  · exact own_c453 q1 p2 p4
  · exact own_chU (own_c453 q1 p2 p4) _ _
theorem own_cl {c : Nat → Int32} {w : Int32} (hcs : ¬ w = 0) (hch : ∀ i, 0 ≤ (c i).toInt ∧ (c i).toInt < 65536) : (f1_o0 0 12 c w = 0 ∧ f1_x0n 0 12 c w = 12) ∨ (f1_o0 0 12 c w = 1 ∧ f1_x0n 0 12 c w = 24) := by
  unfold f1_o0 f1_x0n f2_o0 f2_x0n f6 f4_x0n
  by_cases h : f5 0 0 12 12 c 12 (fun _ => 0) = 12
  · simp only [if_pos h]
    exact Or.inl ⟨by decide, by first | rfl | trivial⟩
  · simp only [if_neg h]
    rw [show f13_x0n 0 12 12 c = 24 from own_13n 0 12 c 13 0 0 _ (own_t4 rfl)]
    exact Or.inr ⟨by decide, rfl⟩
def f0 (q1 : Int64) (p2 : Int32) (p3 : Int32) (p4 : Int32) (p5 : Int32) (p6 : Int32) (w_CS : Int32) : Int32 := (if (f0_s0_31 p6) = (0 : Int32) then (if (f7n (f0_v6 p4) (f0_v16 p5) w_CS (f1_o0 (0 : Int32) (12 : Int32) (f0_A_b15_469 q1 p2 p3 p4 p6) w_CS) (f1_x0n (0 : Int32) (12 : Int32) (f0_A_b15_469 q1 p2 p3 p4 p6) w_CS) (f1_x0c (0 : Int32) (12 : Int32) (f0_A_b15_469 q1 p2 p3 p4 p6) w_CS)) = (f0_l23_546 q1 p5 p6) then (1 : Int32) else (0 : Int32)) else (if (f7b (f0_v6 p4) (f0_v16 p5) (12 : Int32) (f0_v320 q1 p2 p4)) = (q1 &&& (f0_s0_78 p5)) then (1 : Int32) else (0 : Int32)))
def Q0 (Z : State) (q1 : Int64) (p2 : Int32) (p3 : Int32) (p4 : Int32) (p5 : Int32) (p6 : Int32) (w_CS : Int32) (w_SIO : Value) (h0 : Heap) (n0 : Nat) (v : Option Value) (h : Heap) (L : List Loc) : Prop := v = some (.int (f0 q1 p2 p3 p4 p5 p6 w_CS)) ∧ Fr n0 L ∧ True
set_option maxRecDepth 65536 in
set_option maxHeartbeats 40000000 in
theorem rm0 (l : Launch) (Z : State) (a0 : Array Value) (hw : ∀ d ∈ tables_1, d.before a0 Z = true) (ws : List Jvm.Cond) (q1 : Int64) (p2 : Int32) (p3 : Int32) (p4 : Int32) (p5 : Int32) (p6 : Int32) (w_CS : Int32) (w_SIO : Value) (h0 : Heap) (n0 : Nat) (Z0 : n0 ≤ h0.size) (S_COMPACT_STRINGS : Sta Z h0 "java/lang/String" "COMPACT_STRINGS" "Z" (.int w_CS)) (hcs : ¬ w_CS = 0) (S_SIOOBE_FORMATTER : Sta Z h0 "jdk/internal/util/Preconditions" "SIOOBE_FORMATTER" "Ljava/util/function/BiFunction;" w_SIO) (hcat : w_SIO.category = 1) (S__assertionsDisabled : Sta Z h0 "java/lang/StringUTF16" "$assertionsDisabled" "Z" (.int (1 : Int32))) (S_HI_BYTE_SHIFT : Sta Z h0 "java/lang/StringUTF16" "HI_BYTE_SHIFT" "I" (.int (0 : Int32))) (S_LO_BYTE_SHIFT : Sta Z h0 "java/lang/StringUTF16" "LO_BYTE_SHIFT" "I" (.int (8 : Int32))) :
    MetFree l x (head1 (Jvm.Cond.code x code maxLocals ret :: ws) room_1) (fun a U => a = #[(.long q1), (.int p2), (.int p3), (.int p4), (.int p5), (.int p6)] ∧ Z.Warmed39 U.vm ∧ U.heap = h0) (fun _ _ _ _ _ => True) (fun _ U o U' => ∃ v L, o = .returned v ∧ Q0 Z q1 p2 p3 p4 p5 p6 w_CS w_SIO h0 n0 v U'.heap L ∧ FrameEnd U o U' L room_1.cells room_1.slots) := by
  refine MetFree.of_bodySF (plainFor_of_name pn_5) hisR ?_
  intro p e s m args below meth c s₁ Bd hml0 hP hK
  obtain ⟨rfl, hZ, hh⟩ := hP
  have hx := Bd.exec
  have hby := Bd.bytes
  have hml : c.maxLocals = 25 := hml0
  have hown : s.vm.findClass "com/example/ringward/ringward/Utf8LittleEndianPinLaw" = some m.cls := findClass_of_methodNamed Bd.named
  have hnm := (name_of_methodNamed Bd.named Bd.method).1
  have X0 : Stand p l e room_1 s m #[(.long q1), (.int p2), (.int p3), (.int p4), (.int p5), (.int p6)] below meth c s₁ [] 0 0 := Stand.of_body Bd
  have e0 : s₁.heap = h0 := by rw [← hh, Bd.state]; rfl
  have N0 := Fr.nil n0
  have pre0 : ∀ t, Steps p.tables e below (s₁.setTop (mkF m 0 #[.val (.long q1), .second, .val (.int p2), .val (.int p3), .val (.int p4), .val (.int p5), .val (.int p6), .unset, .unset, .unset, .unset, .unset, .unset, .unset, .unset, .unset, .unset, .unset, .unset, .unset, .unset, .unset, .unset, .unset, .unset] [])) t → Steps p.tables e below (s₁.setTop (entryFrame m #[(.long q1), (.int p2), (.int p3), (.int p4), (.int p5), (.int p6)] maxLocals)) t := fun t k => castTop (ef_0 m q1 p2 p3 p4 p5 p6) k
  have pre1 : ∀ t, Steps p.tables e below (s₁.setTop (mkF m 23 #[.val (.long q1), .second, .val (.int p2), .val (.int p3), .val (.int p4), .val (.int p5), .val (.int p6), .val (.int (f0_v6 p4)), .val (.int (f0_v16 p5)), .unset, .unset, .unset, .unset, .unset, .unset, .unset, .unset, .unset, .unset, .unset, .unset, .unset, .unset, .unset, .unset] [(.int (p6 &&& (1 : Int32)))])) t → Steps p.tables e below (s₁.setTop (entryFrame m #[(.long q1), (.int p2), (.int p3), (.int p4), (.int p5), (.int p6)] maxLocals)) t := by
    intro t k
    refine pre0 t ?_
    show Steps p.tables e below (s₁.setTop (mkF m 0 #[.val (.long q1), .second, .val (.int p2), .val (.int p3), .val (.int p4), .val (.int p5), .val (.int p6), .unset, .unset, .unset, .unset, .unset, .unset, .unset, .unset, .unset, .unset, .unset, .unset, .unset, .unset, .unset, .unset, .unset, .unset] [])) _
    refine XS.iload X0.here hx rfl (hb hby at_0) rfl ?_
    show Steps p.tables e below (s₁.setTop (mkF m 2 #[.val (.long q1), .second, .val (.int p2), .val (.int p3), .val (.int p4), .val (.int p5), .val (.int p6), .unset, .unset, .unset, .unset, .unset, .unset, .unset, .unset, .unset, .unset, .unset, .unset, .unset, .unset, .unset, .unset, .unset, .unset] [(.int p4)])) _
    refine X0.ldcInt hx hown (mvT hZ (hw _ (List.mem_of_getElem? (i := 0) rfl))) (g := (mkF m 2 #[.val (.long q1), .second, .val (.int p2), .val (.int p3), .val (.int p4), .val (.int p5), .val (.int p6), .unset, .unset, .unset, .unset, .unset, .unset, .unset, .unset, .unset, .unset, .unset, .unset, .unset, .unset, .unset, .unset, .unset, .unset] [(.int p4)])) rfl (hb hby at_2) _ ?_
    show Steps p.tables e below (s₁.setTop (mkF m 4 #[.val (.long q1), .second, .val (.int p2), .val (.int p3), .val (.int p4), .val (.int p5), .val (.int p6), .unset, .unset, .unset, .unset, .unset, .unset, .unset, .unset, .unset, .unset, .unset, .unset, .unset, .unset, .unset, .unset, .unset, .unset] [(.int (2147483647 : Int32)), (.int p4)])) _
    refine XS.iand X0.here hx rfl (hb hby at_4) rfl ?_
    show Steps p.tables e below (s₁.setTop (mkF m 5 #[.val (.long q1), .second, .val (.int p2), .val (.int p3), .val (.int p4), .val (.int p5), .val (.int p6), .unset, .unset, .unset, .unset, .unset, .unset, .unset, .unset, .unset, .unset, .unset, .unset, .unset, .unset, .unset, .unset, .unset, .unset] [(.int (p4 &&& (2147483647 : Int32)))])) _
    refine XS.iconst X0.here hx rfl (hb hby at_5) ?_
    show Steps p.tables e below (s₁.setTop (mkF m 6 #[.val (.long q1), .second, .val (.int p2), .val (.int p3), .val (.int p4), .val (.int p5), .val (.int p6), .unset, .unset, .unset, .unset, .unset, .unset, .unset, .unset, .unset, .unset, .unset, .unset, .unset, .unset, .unset, .unset, .unset, .unset] [(.int (4 : Int32)), (.int (p4 &&& (2147483647 : Int32)))])) _
    refine XS.irem X0.here hx rfl (hb hby at_6) rfl (by decide) ?_
    show Steps p.tables e below (s₁.setTop (mkF m 7 #[.val (.long q1), .second, .val (.int p2), .val (.int p3), .val (.int p4), .val (.int p5), .val (.int p6), .unset, .unset, .unset, .unset, .unset, .unset, .unset, .unset, .unset, .unset, .unset, .unset, .unset, .unset, .unset, .unset, .unset, .unset] [(.int (f0_v6 p4))])) _
    refine XS.istore X0.here hx rfl (hb hby at_7) rfl (l' := #[.val (.long q1), .second, .val (.int p2), .val (.int p3), .val (.int p4), .val (.int p5), .val (.int p6), .val (.int (f0_v6 p4)), .unset, .unset, .unset, .unset, .unset, .unset, .unset, .unset, .unset, .unset, .unset, .unset, .unset, .unset, .unset, .unset, .unset]) rfl ?_
    show Steps p.tables e below (s₁.setTop (mkF m 9 #[.val (.long q1), .second, .val (.int p2), .val (.int p3), .val (.int p4), .val (.int p5), .val (.int p6), .val (.int (f0_v6 p4)), .unset, .unset, .unset, .unset, .unset, .unset, .unset, .unset, .unset, .unset, .unset, .unset, .unset, .unset, .unset, .unset, .unset] [])) _
    refine XS.iload X0.here hx rfl (hb hby at_9) rfl ?_
    show Steps p.tables e below (s₁.setTop (mkF m 11 #[.val (.long q1), .second, .val (.int p2), .val (.int p3), .val (.int p4), .val (.int p5), .val (.int p6), .val (.int (f0_v6 p4)), .unset, .unset, .unset, .unset, .unset, .unset, .unset, .unset, .unset, .unset, .unset, .unset, .unset, .unset, .unset, .unset, .unset] [(.int p5)])) _
    refine X0.ldcInt hx hown (mvT hZ (hw _ (List.mem_of_getElem? (i := 0) rfl))) (g := (mkF m 11 #[.val (.long q1), .second, .val (.int p2), .val (.int p3), .val (.int p4), .val (.int p5), .val (.int p6), .val (.int (f0_v6 p4)), .unset, .unset, .unset, .unset, .unset, .unset, .unset, .unset, .unset, .unset, .unset, .unset, .unset, .unset, .unset, .unset, .unset] [(.int p5)])) rfl (hb hby at_11) _ ?_
    show Steps p.tables e below (s₁.setTop (mkF m 13 #[.val (.long q1), .second, .val (.int p2), .val (.int p3), .val (.int p4), .val (.int p5), .val (.int p6), .val (.int (f0_v6 p4)), .unset, .unset, .unset, .unset, .unset, .unset, .unset, .unset, .unset, .unset, .unset, .unset, .unset, .unset, .unset, .unset, .unset] [(.int (2147483647 : Int32)), (.int p5)])) _
    refine XS.iand X0.here hx rfl (hb hby at_13) rfl ?_
    show Steps p.tables e below (s₁.setTop (mkF m 14 #[.val (.long q1), .second, .val (.int p2), .val (.int p3), .val (.int p4), .val (.int p5), .val (.int p6), .val (.int (f0_v6 p4)), .unset, .unset, .unset, .unset, .unset, .unset, .unset, .unset, .unset, .unset, .unset, .unset, .unset, .unset, .unset, .unset, .unset] [(.int (p5 &&& (2147483647 : Int32)))])) _
    refine XS.bipush X0.here hx rfl (hb hby at_14) ?_
    show Steps p.tables e below (s₁.setTop (mkF m 16 #[.val (.long q1), .second, .val (.int p2), .val (.int p3), .val (.int p4), .val (.int p5), .val (.int p6), .val (.int (f0_v6 p4)), .unset, .unset, .unset, .unset, .unset, .unset, .unset, .unset, .unset, .unset, .unset, .unset, .unset, .unset, .unset, .unset, .unset] [(.int (9 : Int32)), (.int (p5 &&& (2147483647 : Int32)))])) _
    refine XS.irem X0.here hx rfl (hb hby at_16) rfl (by decide) ?_
    show Steps p.tables e below (s₁.setTop (mkF m 17 #[.val (.long q1), .second, .val (.int p2), .val (.int p3), .val (.int p4), .val (.int p5), .val (.int p6), .val (.int (f0_v6 p4)), .unset, .unset, .unset, .unset, .unset, .unset, .unset, .unset, .unset, .unset, .unset, .unset, .unset, .unset, .unset, .unset, .unset] [(.int (f0_v16 p5))])) _
    refine XS.istore X0.here hx rfl (hb hby at_17) rfl (l' := #[.val (.long q1), .second, .val (.int p2), .val (.int p3), .val (.int p4), .val (.int p5), .val (.int p6), .val (.int (f0_v6 p4)), .val (.int (f0_v16 p5)), .unset, .unset, .unset, .unset, .unset, .unset, .unset, .unset, .unset, .unset, .unset, .unset, .unset, .unset, .unset, .unset]) rfl ?_
    show Steps p.tables e below (s₁.setTop (mkF m 19 #[.val (.long q1), .second, .val (.int p2), .val (.int p3), .val (.int p4), .val (.int p5), .val (.int p6), .val (.int (f0_v6 p4)), .val (.int (f0_v16 p5)), .unset, .unset, .unset, .unset, .unset, .unset, .unset, .unset, .unset, .unset, .unset, .unset, .unset, .unset, .unset, .unset] [])) _
    refine XS.iload X0.here hx rfl (hb hby at_19) rfl ?_
    show Steps p.tables e below (s₁.setTop (mkF m 21 #[.val (.long q1), .second, .val (.int p2), .val (.int p3), .val (.int p4), .val (.int p5), .val (.int p6), .val (.int (f0_v6 p4)), .val (.int (f0_v16 p5)), .unset, .unset, .unset, .unset, .unset, .unset, .unset, .unset, .unset, .unset, .unset, .unset, .unset, .unset, .unset, .unset] [(.int p6)])) _
    refine XS.iconst X0.here hx rfl (hb hby at_21) ?_
    show Steps p.tables e below (s₁.setTop (mkF m 22 #[.val (.long q1), .second, .val (.int p2), .val (.int p3), .val (.int p4), .val (.int p5), .val (.int p6), .val (.int (f0_v6 p4)), .val (.int (f0_v16 p5)), .unset, .unset, .unset, .unset, .unset, .unset, .unset, .unset, .unset, .unset, .unset, .unset, .unset, .unset, .unset, .unset] [(.int (1 : Int32)), (.int p6)])) _
    refine XS.iand X0.here hx rfl (hb hby at_22) rfl ?_
    exact k
  have pre2 : ∀ t, Steps p.tables e below (s₁.setTop (mkF m 31 #[.val (.long q1), .second, .val (.int p2), .val (.int p3), .val (.int p4), .val (.int p5), .val (.int p6), .val (.int (f0_v6 p4)), .val (.int (f0_v16 p5)), .unset, .unset, .unset, .unset, .unset, .unset, .unset, .unset, .unset, .unset, .unset, .unset, .unset, .unset, .unset, .unset] [(.int (f0_s0_31 p6))])) t → Steps p.tables e below (s₁.setTop (entryFrame m #[(.long q1), (.int p2), (.int p3), (.int p4), (.int p5), (.int p6)] maxLocals)) t := by
    intro t k
    by_cases hc23 : (p6 &&& (1 : Int32)) = (0 : Int32)
    · have eq3 := (show (f0_s0_31 p6) = (0 : Int32) from by unfold f0_s0_31; simp only [if_pos hc23])
      try rw [eq3] at k
      refine pre1 t ?_
      show Steps p.tables e below (s₁.setTop (mkF m 23 #[.val (.long q1), .second, .val (.int p2), .val (.int p3), .val (.int p4), .val (.int p5), .val (.int p6), .val (.int (f0_v6 p4)), .val (.int (f0_v16 p5)), .unset, .unset, .unset, .unset, .unset, .unset, .unset, .unset, .unset, .unset, .unset, .unset, .unset, .unset, .unset, .unset] [(.int (p6 &&& (1 : Int32)))])) _
      refine XS.ifYes X0.here hx rfl (pc0 := 23) (pc' := 30) rfl (hb hby at_23) rfl ((if0 _ _).trans (teq hc23).1) (by decide) (by decide) ?_
      show Steps p.tables e below (s₁.setTop (mkF m 30 #[.val (.long q1), .second, .val (.int p2), .val (.int p3), .val (.int p4), .val (.int p5), .val (.int p6), .val (.int (f0_v6 p4)), .val (.int (f0_v16 p5)), .unset, .unset, .unset, .unset, .unset, .unset, .unset, .unset, .unset, .unset, .unset, .unset, .unset, .unset, .unset, .unset] [])) _
      refine XS.iconst X0.here hx rfl (hb hby at_30) ?_
      exact k
    · have eq4 := (show (f0_s0_31 p6) = (1 : Int32) from by unfold f0_s0_31; simp only [if_neg hc23])
      try rw [eq4] at k
      refine pre1 t ?_
      show Steps p.tables e below (s₁.setTop (mkF m 23 #[.val (.long q1), .second, .val (.int p2), .val (.int p3), .val (.int p4), .val (.int p5), .val (.int p6), .val (.int (f0_v6 p4)), .val (.int (f0_v16 p5)), .unset, .unset, .unset, .unset, .unset, .unset, .unset, .unset, .unset, .unset, .unset, .unset, .unset, .unset, .unset, .unset] [(.int (p6 &&& (1 : Int32)))])) _
      refine XS.ifNo X0.here hx rfl (hb hby at_23) rfl ((if0 _ _).trans (feq hc23).1) ?_
      show Steps p.tables e below (s₁.setTop (mkF m 26 #[.val (.long q1), .second, .val (.int p2), .val (.int p3), .val (.int p4), .val (.int p5), .val (.int p6), .val (.int (f0_v6 p4)), .val (.int (f0_v16 p5)), .unset, .unset, .unset, .unset, .unset, .unset, .unset, .unset, .unset, .unset, .unset, .unset, .unset, .unset, .unset, .unset] [])) _
      refine XS.iconst X0.here hx rfl (hb hby at_26) ?_
      show Steps p.tables e below (s₁.setTop (mkF m 27 #[.val (.long q1), .second, .val (.int p2), .val (.int p3), .val (.int p4), .val (.int p5), .val (.int p6), .val (.int (f0_v6 p4)), .val (.int (f0_v16 p5)), .unset, .unset, .unset, .unset, .unset, .unset, .unset, .unset, .unset, .unset, .unset, .unset, .unset, .unset, .unset, .unset] [(.int (1 : Int32))])) _
      refine XS.goto X0.here hx rfl (pc0 := 27) (pc' := 31) rfl (hb hby at_27) (by decide) (by decide) ?_
      exact k
  have pre5 : ∀ t, Steps p.tables e below (s₁.setTop (mkF m 37 #[.val (.long q1), .second, .val (.int p2), .val (.int p3), .val (.int p4), .val (.int p5), .val (.int p6), .val (.int (f0_v6 p4)), .val (.int (f0_v16 p5)), .val (.int (f0_s0_31 p6)), .unset, .unset, .unset, .unset, .unset, .unset, .unset, .unset, .unset, .unset, .unset, .unset, .unset, .unset, .unset] [(.int (p6 &&& (2 : Int32)))])) t → Steps p.tables e below (s₁.setTop (entryFrame m #[(.long q1), (.int p2), (.int p3), (.int p4), (.int p5), (.int p6)] maxLocals)) t := by
    intro t k
    refine pre2 t ?_
    show Steps p.tables e below (s₁.setTop (mkF m 31 #[.val (.long q1), .second, .val (.int p2), .val (.int p3), .val (.int p4), .val (.int p5), .val (.int p6), .val (.int (f0_v6 p4)), .val (.int (f0_v16 p5)), .unset, .unset, .unset, .unset, .unset, .unset, .unset, .unset, .unset, .unset, .unset, .unset, .unset, .unset, .unset, .unset] [(.int (f0_s0_31 p6))])) _
    refine XS.istore X0.here hx rfl (hb hby at_31) rfl (l' := #[.val (.long q1), .second, .val (.int p2), .val (.int p3), .val (.int p4), .val (.int p5), .val (.int p6), .val (.int (f0_v6 p4)), .val (.int (f0_v16 p5)), .val (.int (f0_s0_31 p6)), .unset, .unset, .unset, .unset, .unset, .unset, .unset, .unset, .unset, .unset, .unset, .unset, .unset, .unset, .unset]) rfl ?_
    show Steps p.tables e below (s₁.setTop (mkF m 33 #[.val (.long q1), .second, .val (.int p2), .val (.int p3), .val (.int p4), .val (.int p5), .val (.int p6), .val (.int (f0_v6 p4)), .val (.int (f0_v16 p5)), .val (.int (f0_s0_31 p6)), .unset, .unset, .unset, .unset, .unset, .unset, .unset, .unset, .unset, .unset, .unset, .unset, .unset, .unset, .unset] [])) _
    refine XS.iload X0.here hx rfl (hb hby at_33) rfl ?_
    show Steps p.tables e below (s₁.setTop (mkF m 35 #[.val (.long q1), .second, .val (.int p2), .val (.int p3), .val (.int p4), .val (.int p5), .val (.int p6), .val (.int (f0_v6 p4)), .val (.int (f0_v16 p5)), .val (.int (f0_s0_31 p6)), .unset, .unset, .unset, .unset, .unset, .unset, .unset, .unset, .unset, .unset, .unset, .unset, .unset, .unset, .unset] [(.int p6)])) _
    refine XS.iconst X0.here hx rfl (hb hby at_35) ?_
    show Steps p.tables e below (s₁.setTop (mkF m 36 #[.val (.long q1), .second, .val (.int p2), .val (.int p3), .val (.int p4), .val (.int p5), .val (.int p6), .val (.int (f0_v6 p4)), .val (.int (f0_v16 p5)), .val (.int (f0_s0_31 p6)), .unset, .unset, .unset, .unset, .unset, .unset, .unset, .unset, .unset, .unset, .unset, .unset, .unset, .unset, .unset] [(.int (2 : Int32)), (.int p6)])) _
    refine XS.iand X0.here hx rfl (hb hby at_36) rfl ?_
    exact k
  have pre6 : ∀ t, Steps p.tables e below (s₁.setTop (mkF m 45 #[.val (.long q1), .second, .val (.int p2), .val (.int p3), .val (.int p4), .val (.int p5), .val (.int p6), .val (.int (f0_v6 p4)), .val (.int (f0_v16 p5)), .val (.int (f0_s0_31 p6)), .unset, .unset, .unset, .unset, .unset, .unset, .unset, .unset, .unset, .unset, .unset, .unset, .unset, .unset, .unset] [(.int (f0_s0_45 p6))])) t → Steps p.tables e below (s₁.setTop (entryFrame m #[(.long q1), (.int p2), (.int p3), (.int p4), (.int p5), (.int p6)] maxLocals)) t := by
    intro t k
    by_cases hc37 : (p6 &&& (2 : Int32)) = (0 : Int32)
    · have eq7 := (show (f0_s0_45 p6) = (0 : Int32) from by unfold f0_s0_45; simp only [if_pos hc37])
      try rw [eq7] at k
      refine pre5 t ?_
      show Steps p.tables e below (s₁.setTop (mkF m 37 #[.val (.long q1), .second, .val (.int p2), .val (.int p3), .val (.int p4), .val (.int p5), .val (.int p6), .val (.int (f0_v6 p4)), .val (.int (f0_v16 p5)), .val (.int (f0_s0_31 p6)), .unset, .unset, .unset, .unset, .unset, .unset, .unset, .unset, .unset, .unset, .unset, .unset, .unset, .unset, .unset] [(.int (p6 &&& (2 : Int32)))])) _
      refine XS.ifYes X0.here hx rfl (pc0 := 37) (pc' := 44) rfl (hb hby at_37) rfl ((if0 _ _).trans (teq hc37).1) (by decide) (by decide) ?_
      show Steps p.tables e below (s₁.setTop (mkF m 44 #[.val (.long q1), .second, .val (.int p2), .val (.int p3), .val (.int p4), .val (.int p5), .val (.int p6), .val (.int (f0_v6 p4)), .val (.int (f0_v16 p5)), .val (.int (f0_s0_31 p6)), .unset, .unset, .unset, .unset, .unset, .unset, .unset, .unset, .unset, .unset, .unset, .unset, .unset, .unset, .unset] [])) _
      refine XS.iconst X0.here hx rfl (hb hby at_44) ?_
      exact k
    · have eq8 := (show (f0_s0_45 p6) = (1 : Int32) from by unfold f0_s0_45; simp only [if_neg hc37])
      try rw [eq8] at k
      refine pre5 t ?_
      show Steps p.tables e below (s₁.setTop (mkF m 37 #[.val (.long q1), .second, .val (.int p2), .val (.int p3), .val (.int p4), .val (.int p5), .val (.int p6), .val (.int (f0_v6 p4)), .val (.int (f0_v16 p5)), .val (.int (f0_s0_31 p6)), .unset, .unset, .unset, .unset, .unset, .unset, .unset, .unset, .unset, .unset, .unset, .unset, .unset, .unset, .unset] [(.int (p6 &&& (2 : Int32)))])) _
      refine XS.ifNo X0.here hx rfl (hb hby at_37) rfl ((if0 _ _).trans (feq hc37).1) ?_
      show Steps p.tables e below (s₁.setTop (mkF m 40 #[.val (.long q1), .second, .val (.int p2), .val (.int p3), .val (.int p4), .val (.int p5), .val (.int p6), .val (.int (f0_v6 p4)), .val (.int (f0_v16 p5)), .val (.int (f0_s0_31 p6)), .unset, .unset, .unset, .unset, .unset, .unset, .unset, .unset, .unset, .unset, .unset, .unset, .unset, .unset, .unset] [])) _
      refine XS.iconst X0.here hx rfl (hb hby at_40) ?_
      show Steps p.tables e below (s₁.setTop (mkF m 41 #[.val (.long q1), .second, .val (.int p2), .val (.int p3), .val (.int p4), .val (.int p5), .val (.int p6), .val (.int (f0_v6 p4)), .val (.int (f0_v16 p5)), .val (.int (f0_s0_31 p6)), .unset, .unset, .unset, .unset, .unset, .unset, .unset, .unset, .unset, .unset, .unset, .unset, .unset, .unset, .unset] [(.int (1 : Int32))])) _
      refine XS.goto X0.here hx rfl (pc0 := 41) (pc' := 45) rfl (hb hby at_41) (by decide) (by decide) ?_
      exact k
  have pre9 : ∀ t, Steps p.tables e below (s₁.setTop (mkF m 60 #[.val (.long q1), .second, .val (.int p2), .val (.int p3), .val (.int p4), .val (.int p5), .val (.int p6), .val (.int (f0_v6 p4)), .val (.int (f0_v16 p5)), .val (.int (f0_s0_31 p6)), .val (.int (f0_s0_45 p6)), .val (.int (f0_v54 p6)), .unset, .unset, .unset, .unset, .unset, .unset, .unset, .unset, .unset, .unset, .unset, .unset, .unset] [(.int (8 : Int32)), (.int (f0_v16 p5))])) t → Steps p.tables e below (s₁.setTop (entryFrame m #[(.long q1), (.int p2), (.int p3), (.int p4), (.int p5), (.int p6)] maxLocals)) t := by
    intro t k
    refine pre6 t ?_
    show Steps p.tables e below (s₁.setTop (mkF m 45 #[.val (.long q1), .second, .val (.int p2), .val (.int p3), .val (.int p4), .val (.int p5), .val (.int p6), .val (.int (f0_v6 p4)), .val (.int (f0_v16 p5)), .val (.int (f0_s0_31 p6)), .unset, .unset, .unset, .unset, .unset, .unset, .unset, .unset, .unset, .unset, .unset, .unset, .unset, .unset, .unset] [(.int (f0_s0_45 p6))])) _
    refine XS.istore X0.here hx rfl (hb hby at_45) rfl (l' := #[.val (.long q1), .second, .val (.int p2), .val (.int p3), .val (.int p4), .val (.int p5), .val (.int p6), .val (.int (f0_v6 p4)), .val (.int (f0_v16 p5)), .val (.int (f0_s0_31 p6)), .val (.int (f0_s0_45 p6)), .unset, .unset, .unset, .unset, .unset, .unset, .unset, .unset, .unset, .unset, .unset, .unset, .unset, .unset]) rfl ?_
    show Steps p.tables e below (s₁.setTop (mkF m 47 #[.val (.long q1), .second, .val (.int p2), .val (.int p3), .val (.int p4), .val (.int p5), .val (.int p6), .val (.int (f0_v6 p4)), .val (.int (f0_v16 p5)), .val (.int (f0_s0_31 p6)), .val (.int (f0_s0_45 p6)), .unset, .unset, .unset, .unset, .unset, .unset, .unset, .unset, .unset, .unset, .unset, .unset, .unset, .unset] [])) _
    refine XS.iload X0.here hx rfl (hb hby at_47) rfl ?_
    show Steps p.tables e below (s₁.setTop (mkF m 49 #[.val (.long q1), .second, .val (.int p2), .val (.int p3), .val (.int p4), .val (.int p5), .val (.int p6), .val (.int (f0_v6 p4)), .val (.int (f0_v16 p5)), .val (.int (f0_s0_31 p6)), .val (.int (f0_s0_45 p6)), .unset, .unset, .unset, .unset, .unset, .unset, .unset, .unset, .unset, .unset, .unset, .unset, .unset, .unset] [(.int p6)])) _
    refine XS.iconst X0.here hx rfl (hb hby at_49) ?_
    show Steps p.tables e below (s₁.setTop (mkF m 50 #[.val (.long q1), .second, .val (.int p2), .val (.int p3), .val (.int p4), .val (.int p5), .val (.int p6), .val (.int (f0_v6 p4)), .val (.int (f0_v16 p5)), .val (.int (f0_s0_31 p6)), .val (.int (f0_s0_45 p6)), .unset, .unset, .unset, .unset, .unset, .unset, .unset, .unset, .unset, .unset, .unset, .unset, .unset, .unset] [(.int (2 : Int32)), (.int p6)])) _
    refine XS.iushr X0.here hx rfl (hb hby at_50) rfl ?_
    show Steps p.tables e below (s₁.setTop (mkF m 51 #[.val (.long q1), .second, .val (.int p2), .val (.int p3), .val (.int p4), .val (.int p5), .val (.int p6), .val (.int (f0_v6 p4)), .val (.int (f0_v16 p5)), .val (.int (f0_s0_31 p6)), .val (.int (f0_s0_45 p6)), .unset, .unset, .unset, .unset, .unset, .unset, .unset, .unset, .unset, .unset, .unset, .unset, .unset, .unset] [(.int ((p6.toUInt32 >>> ((2 : Int32) &&& 31).toUInt32).toInt32))])) _
    refine XS.bipush X0.here hx rfl (hb hby at_51) ?_
    show Steps p.tables e below (s₁.setTop (mkF m 53 #[.val (.long q1), .second, .val (.int p2), .val (.int p3), .val (.int p4), .val (.int p5), .val (.int p6), .val (.int (f0_v6 p4)), .val (.int (f0_v16 p5)), .val (.int (f0_s0_31 p6)), .val (.int (f0_s0_45 p6)), .unset, .unset, .unset, .unset, .unset, .unset, .unset, .unset, .unset, .unset, .unset, .unset, .unset, .unset] [(.int (7 : Int32)), (.int ((p6.toUInt32 >>> ((2 : Int32) &&& 31).toUInt32).toInt32))])) _
    refine XS.iand X0.here hx rfl (hb hby at_53) rfl ?_
    show Steps p.tables e below (s₁.setTop (mkF m 54 #[.val (.long q1), .second, .val (.int p2), .val (.int p3), .val (.int p4), .val (.int p5), .val (.int p6), .val (.int (f0_v6 p4)), .val (.int (f0_v16 p5)), .val (.int (f0_s0_31 p6)), .val (.int (f0_s0_45 p6)), .unset, .unset, .unset, .unset, .unset, .unset, .unset, .unset, .unset, .unset, .unset, .unset, .unset, .unset] [(.int (((p6.toUInt32 >>> ((2 : Int32) &&& 31).toUInt32).toInt32) &&& (7 : Int32)))])) _
    refine XS.istore X0.here hx rfl (hb hby at_54) rfl (l' := #[.val (.long q1), .second, .val (.int p2), .val (.int p3), .val (.int p4), .val (.int p5), .val (.int p6), .val (.int (f0_v6 p4)), .val (.int (f0_v16 p5)), .val (.int (f0_s0_31 p6)), .val (.int (f0_s0_45 p6)), .val (.int (f0_v54 p6)), .unset, .unset, .unset, .unset, .unset, .unset, .unset, .unset, .unset, .unset, .unset, .unset, .unset]) rfl ?_
    show Steps p.tables e below (s₁.setTop (mkF m 56 #[.val (.long q1), .second, .val (.int p2), .val (.int p3), .val (.int p4), .val (.int p5), .val (.int p6), .val (.int (f0_v6 p4)), .val (.int (f0_v16 p5)), .val (.int (f0_s0_31 p6)), .val (.int (f0_s0_45 p6)), .val (.int (f0_v54 p6)), .unset, .unset, .unset, .unset, .unset, .unset, .unset, .unset, .unset, .unset, .unset, .unset, .unset] [])) _
    refine XS.iload X0.here hx rfl (hb hby at_56) rfl ?_
    show Steps p.tables e below (s₁.setTop (mkF m 58 #[.val (.long q1), .second, .val (.int p2), .val (.int p3), .val (.int p4), .val (.int p5), .val (.int p6), .val (.int (f0_v6 p4)), .val (.int (f0_v16 p5)), .val (.int (f0_s0_31 p6)), .val (.int (f0_s0_45 p6)), .val (.int (f0_v54 p6)), .unset, .unset, .unset, .unset, .unset, .unset, .unset, .unset, .unset, .unset, .unset, .unset, .unset] [(.int (f0_v16 p5))])) _
    refine XS.bipush X0.here hx rfl (hb hby at_58) ?_
    exact k
  have pre10 : ∀ t, Steps p.tables e below (s₁.setTop (mkF m 78 #[.val (.long q1), .second, .val (.int p2), .val (.int p3), .val (.int p4), .val (.int p5), .val (.int p6), .val (.int (f0_v6 p4)), .val (.int (f0_v16 p5)), .val (.int (f0_s0_31 p6)), .val (.int (f0_s0_45 p6)), .val (.int (f0_v54 p6)), .unset, .unset, .unset, .unset, .unset, .unset, .unset, .unset, .unset, .unset, .unset, .unset, .unset] [(.long (f0_s0_78 p5))])) t → Steps p.tables e below (s₁.setTop (entryFrame m #[(.long q1), (.int p2), (.int p3), (.int p4), (.int p5), (.int p6)] maxLocals)) t := by
    intro t k
    by_cases hc60 : (f0_v16 p5) = (8 : Int32)
    · have eq11 := (show (f0_s0_78 p5) = (-1 : Int64) from by unfold f0_s0_78; simp only [if_pos hc60])
      try rw [eq11] at k
      refine pre9 t ?_
      show Steps p.tables e below (s₁.setTop (mkF m 60 #[.val (.long q1), .second, .val (.int p2), .val (.int p3), .val (.int p4), .val (.int p5), .val (.int p6), .val (.int (f0_v6 p4)), .val (.int (f0_v16 p5)), .val (.int (f0_s0_31 p6)), .val (.int (f0_s0_45 p6)), .val (.int (f0_v54 p6)), .unset, .unset, .unset, .unset, .unset, .unset, .unset, .unset, .unset, .unset, .unset, .unset, .unset] [(.int (8 : Int32)), (.int (f0_v16 p5))])) _
      refine XS.icmpNo X0.here hx rfl (hb hby at_60) rfl (teq hc60).2 ?_
      show Steps p.tables e below (s₁.setTop (mkF m 63 #[.val (.long q1), .second, .val (.int p2), .val (.int p3), .val (.int p4), .val (.int p5), .val (.int p6), .val (.int (f0_v6 p4)), .val (.int (f0_v16 p5)), .val (.int (f0_s0_31 p6)), .val (.int (f0_s0_45 p6)), .val (.int (f0_v54 p6)), .unset, .unset, .unset, .unset, .unset, .unset, .unset, .unset, .unset, .unset, .unset, .unset, .unset] [])) _
      refine X0.ldc2Long hx hown (mvT hZ (hw _ (List.mem_of_getElem? (i := 61) rfl))) (g := (mkF m 63 #[.val (.long q1), .second, .val (.int p2), .val (.int p3), .val (.int p4), .val (.int p5), .val (.int p6), .val (.int (f0_v6 p4)), .val (.int (f0_v16 p5)), .val (.int (f0_s0_31 p6)), .val (.int (f0_s0_45 p6)), .val (.int (f0_v54 p6)), .unset, .unset, .unset, .unset, .unset, .unset, .unset, .unset, .unset, .unset, .unset, .unset, .unset] [])) rfl (hb hby at_63) _ ?_
      show Steps p.tables e below (s₁.setTop (mkF m 66 #[.val (.long q1), .second, .val (.int p2), .val (.int p3), .val (.int p4), .val (.int p5), .val (.int p6), .val (.int (f0_v6 p4)), .val (.int (f0_v16 p5)), .val (.int (f0_s0_31 p6)), .val (.int (f0_s0_45 p6)), .val (.int (f0_v54 p6)), .unset, .unset, .unset, .unset, .unset, .unset, .unset, .unset, .unset, .unset, .unset, .unset, .unset] [(.long (-1 : Int64))])) _
      refine XS.goto X0.here hx rfl (pc0 := 66) (pc' := 78) rfl (hb hby at_66) (by decide) (by decide) ?_
      exact k
    · have eq12 := (show (f0_s0_78 p5) = (((1 : Int64) <<< (((8 : Int32) * (f0_v16 p5)) &&& 0x3f).toInt64) - (1 : Int64)) from by unfold f0_s0_78; simp only [if_neg hc60])
      try rw [eq12] at k
      refine pre9 t ?_
      show Steps p.tables e below (s₁.setTop (mkF m 60 #[.val (.long q1), .second, .val (.int p2), .val (.int p3), .val (.int p4), .val (.int p5), .val (.int p6), .val (.int (f0_v6 p4)), .val (.int (f0_v16 p5)), .val (.int (f0_s0_31 p6)), .val (.int (f0_s0_45 p6)), .val (.int (f0_v54 p6)), .unset, .unset, .unset, .unset, .unset, .unset, .unset, .unset, .unset, .unset, .unset, .unset, .unset] [(.int (8 : Int32)), (.int (f0_v16 p5))])) _
      refine XS.icmpYes X0.here hx rfl (pc0 := 60) (pc' := 69) rfl (hb hby at_60) rfl (feq hc60).2 (by decide) (by decide) ?_
      show Steps p.tables e below (s₁.setTop (mkF m 69 #[.val (.long q1), .second, .val (.int p2), .val (.int p3), .val (.int p4), .val (.int p5), .val (.int p6), .val (.int (f0_v6 p4)), .val (.int (f0_v16 p5)), .val (.int (f0_s0_31 p6)), .val (.int (f0_s0_45 p6)), .val (.int (f0_v54 p6)), .unset, .unset, .unset, .unset, .unset, .unset, .unset, .unset, .unset, .unset, .unset, .unset, .unset] [])) _
      refine XS.lconst X0.here hx rfl (hb hby at_69) ?_
      show Steps p.tables e below (s₁.setTop (mkF m 70 #[.val (.long q1), .second, .val (.int p2), .val (.int p3), .val (.int p4), .val (.int p5), .val (.int p6), .val (.int (f0_v6 p4)), .val (.int (f0_v16 p5)), .val (.int (f0_s0_31 p6)), .val (.int (f0_s0_45 p6)), .val (.int (f0_v54 p6)), .unset, .unset, .unset, .unset, .unset, .unset, .unset, .unset, .unset, .unset, .unset, .unset, .unset] [(.long (1 : Int64))])) _
      refine XS.bipush X0.here hx rfl (hb hby at_70) ?_
      show Steps p.tables e below (s₁.setTop (mkF m 72 #[.val (.long q1), .second, .val (.int p2), .val (.int p3), .val (.int p4), .val (.int p5), .val (.int p6), .val (.int (f0_v6 p4)), .val (.int (f0_v16 p5)), .val (.int (f0_s0_31 p6)), .val (.int (f0_s0_45 p6)), .val (.int (f0_v54 p6)), .unset, .unset, .unset, .unset, .unset, .unset, .unset, .unset, .unset, .unset, .unset, .unset, .unset] [(.int (8 : Int32)), (.long (1 : Int64))])) _
      refine XS.iload X0.here hx rfl (hb hby at_72) rfl ?_
      show Steps p.tables e below (s₁.setTop (mkF m 74 #[.val (.long q1), .second, .val (.int p2), .val (.int p3), .val (.int p4), .val (.int p5), .val (.int p6), .val (.int (f0_v6 p4)), .val (.int (f0_v16 p5)), .val (.int (f0_s0_31 p6)), .val (.int (f0_s0_45 p6)), .val (.int (f0_v54 p6)), .unset, .unset, .unset, .unset, .unset, .unset, .unset, .unset, .unset, .unset, .unset, .unset, .unset] [(.int (f0_v16 p5)), (.int (8 : Int32)), (.long (1 : Int64))])) _
      refine XS.imul X0.here hx rfl (hb hby at_74) rfl ?_
      show Steps p.tables e below (s₁.setTop (mkF m 75 #[.val (.long q1), .second, .val (.int p2), .val (.int p3), .val (.int p4), .val (.int p5), .val (.int p6), .val (.int (f0_v6 p4)), .val (.int (f0_v16 p5)), .val (.int (f0_s0_31 p6)), .val (.int (f0_s0_45 p6)), .val (.int (f0_v54 p6)), .unset, .unset, .unset, .unset, .unset, .unset, .unset, .unset, .unset, .unset, .unset, .unset, .unset] [(.int ((8 : Int32) * (f0_v16 p5))), (.long (1 : Int64))])) _
      refine XS.lshl X0.here hx rfl (hb hby at_75) rfl ?_
      show Steps p.tables e below (s₁.setTop (mkF m 76 #[.val (.long q1), .second, .val (.int p2), .val (.int p3), .val (.int p4), .val (.int p5), .val (.int p6), .val (.int (f0_v6 p4)), .val (.int (f0_v16 p5)), .val (.int (f0_s0_31 p6)), .val (.int (f0_s0_45 p6)), .val (.int (f0_v54 p6)), .unset, .unset, .unset, .unset, .unset, .unset, .unset, .unset, .unset, .unset, .unset, .unset, .unset] [(.long ((1 : Int64) <<< (((8 : Int32) * (f0_v16 p5)) &&& 0x3f).toInt64))])) _
      refine XS.lconst X0.here hx rfl (hb hby at_76) ?_
      show Steps p.tables e below (s₁.setTop (mkF m 77 #[.val (.long q1), .second, .val (.int p2), .val (.int p3), .val (.int p4), .val (.int p5), .val (.int p6), .val (.int (f0_v6 p4)), .val (.int (f0_v16 p5)), .val (.int (f0_s0_31 p6)), .val (.int (f0_s0_45 p6)), .val (.int (f0_v54 p6)), .unset, .unset, .unset, .unset, .unset, .unset, .unset, .unset, .unset, .unset, .unset, .unset, .unset] [(.long (1 : Int64)), (.long ((1 : Int64) <<< (((8 : Int32) * (f0_v16 p5)) &&& 0x3f).toInt64))])) _
      refine XS.lsub X0.here hx rfl (hb hby at_77) rfl ?_
      exact k
  have pre13 : ∀ t, Steps p.tables e below (s₁.setTop (mkF m 99 #[.val (.long q1), .second, .val (.int p2), .val (.int p3), .val (.int p4), .val (.int p5), .val (.int p6), .val (.int (f0_v6 p4)), .val (.int (f0_v16 p5)), .val (.int (f0_s0_31 p6)), .val (.int (f0_s0_45 p6)), .val (.int (f0_v54 p6)), .val (.long (f0_s0_78 p5)), .second, .val (.int (p2.toInt8.toInt32)), .val (.int (p2.toUInt32.toUInt16.toUInt32.toInt32)), .val (.int (p3 &&& (65535 : Int32))), .unset, .unset, .unset, .unset, .unset, .unset, .unset, .unset] [(.int (128 : Int32)), (.int (p3 &&& (65535 : Int32)))])) t → Steps p.tables e below (s₁.setTop (entryFrame m #[(.long q1), (.int p2), (.int p3), (.int p4), (.int p5), (.int p6)] maxLocals)) t := by
    intro t k
    refine pre10 t ?_
    show Steps p.tables e below (s₁.setTop (mkF m 78 #[.val (.long q1), .second, .val (.int p2), .val (.int p3), .val (.int p4), .val (.int p5), .val (.int p6), .val (.int (f0_v6 p4)), .val (.int (f0_v16 p5)), .val (.int (f0_s0_31 p6)), .val (.int (f0_s0_45 p6)), .val (.int (f0_v54 p6)), .unset, .unset, .unset, .unset, .unset, .unset, .unset, .unset, .unset, .unset, .unset, .unset, .unset] [(.long (f0_s0_78 p5))])) _
    refine XS.lstore X0.here hx rfl (hb hby at_78) rfl (l' := #[.val (.long q1), .second, .val (.int p2), .val (.int p3), .val (.int p4), .val (.int p5), .val (.int p6), .val (.int (f0_v6 p4)), .val (.int (f0_v16 p5)), .val (.int (f0_s0_31 p6)), .val (.int (f0_s0_45 p6)), .val (.int (f0_v54 p6)), .val (.long (f0_s0_78 p5)), .second, .unset, .unset, .unset, .unset, .unset, .unset, .unset, .unset, .unset, .unset, .unset]) rfl ?_
    show Steps p.tables e below (s₁.setTop (mkF m 80 #[.val (.long q1), .second, .val (.int p2), .val (.int p3), .val (.int p4), .val (.int p5), .val (.int p6), .val (.int (f0_v6 p4)), .val (.int (f0_v16 p5)), .val (.int (f0_s0_31 p6)), .val (.int (f0_s0_45 p6)), .val (.int (f0_v54 p6)), .val (.long (f0_s0_78 p5)), .second, .unset, .unset, .unset, .unset, .unset, .unset, .unset, .unset, .unset, .unset, .unset] [])) _
    refine XS.iloadN X0.here hx rfl (hb hby at_80) rfl ?_
    show Steps p.tables e below (s₁.setTop (mkF m 81 #[.val (.long q1), .second, .val (.int p2), .val (.int p3), .val (.int p4), .val (.int p5), .val (.int p6), .val (.int (f0_v6 p4)), .val (.int (f0_v16 p5)), .val (.int (f0_s0_31 p6)), .val (.int (f0_s0_45 p6)), .val (.int (f0_v54 p6)), .val (.long (f0_s0_78 p5)), .second, .unset, .unset, .unset, .unset, .unset, .unset, .unset, .unset, .unset, .unset, .unset] [(.int p2)])) _
    refine XS.i2b X0.here hx rfl (hb hby at_81) rfl ?_
    show Steps p.tables e below (s₁.setTop (mkF m 82 #[.val (.long q1), .second, .val (.int p2), .val (.int p3), .val (.int p4), .val (.int p5), .val (.int p6), .val (.int (f0_v6 p4)), .val (.int (f0_v16 p5)), .val (.int (f0_s0_31 p6)), .val (.int (f0_s0_45 p6)), .val (.int (f0_v54 p6)), .val (.long (f0_s0_78 p5)), .second, .unset, .unset, .unset, .unset, .unset, .unset, .unset, .unset, .unset, .unset, .unset] [(.int (p2.toInt8.toInt32))])) _
    refine XS.istore X0.here hx rfl (hb hby at_82) rfl (l' := #[.val (.long q1), .second, .val (.int p2), .val (.int p3), .val (.int p4), .val (.int p5), .val (.int p6), .val (.int (f0_v6 p4)), .val (.int (f0_v16 p5)), .val (.int (f0_s0_31 p6)), .val (.int (f0_s0_45 p6)), .val (.int (f0_v54 p6)), .val (.long (f0_s0_78 p5)), .second, .val (.int (p2.toInt8.toInt32)), .unset, .unset, .unset, .unset, .unset, .unset, .unset, .unset, .unset, .unset]) rfl ?_
    show Steps p.tables e below (s₁.setTop (mkF m 84 #[.val (.long q1), .second, .val (.int p2), .val (.int p3), .val (.int p4), .val (.int p5), .val (.int p6), .val (.int (f0_v6 p4)), .val (.int (f0_v16 p5)), .val (.int (f0_s0_31 p6)), .val (.int (f0_s0_45 p6)), .val (.int (f0_v54 p6)), .val (.long (f0_s0_78 p5)), .second, .val (.int (p2.toInt8.toInt32)), .unset, .unset, .unset, .unset, .unset, .unset, .unset, .unset, .unset, .unset] [])) _
    refine XS.iloadN X0.here hx rfl (hb hby at_84) rfl ?_
    show Steps p.tables e below (s₁.setTop (mkF m 85 #[.val (.long q1), .second, .val (.int p2), .val (.int p3), .val (.int p4), .val (.int p5), .val (.int p6), .val (.int (f0_v6 p4)), .val (.int (f0_v16 p5)), .val (.int (f0_s0_31 p6)), .val (.int (f0_s0_45 p6)), .val (.int (f0_v54 p6)), .val (.long (f0_s0_78 p5)), .second, .val (.int (p2.toInt8.toInt32)), .unset, .unset, .unset, .unset, .unset, .unset, .unset, .unset, .unset, .unset] [(.int p2)])) _
    refine XS.i2c X0.here hx rfl (hb hby at_85) rfl ?_
    show Steps p.tables e below (s₁.setTop (mkF m 86 #[.val (.long q1), .second, .val (.int p2), .val (.int p3), .val (.int p4), .val (.int p5), .val (.int p6), .val (.int (f0_v6 p4)), .val (.int (f0_v16 p5)), .val (.int (f0_s0_31 p6)), .val (.int (f0_s0_45 p6)), .val (.int (f0_v54 p6)), .val (.long (f0_s0_78 p5)), .second, .val (.int (p2.toInt8.toInt32)), .unset, .unset, .unset, .unset, .unset, .unset, .unset, .unset, .unset, .unset] [(.int (p2.toUInt32.toUInt16.toUInt32.toInt32))])) _
    refine XS.istore X0.here hx rfl (hb hby at_86) rfl (l' := #[.val (.long q1), .second, .val (.int p2), .val (.int p3), .val (.int p4), .val (.int p5), .val (.int p6), .val (.int (f0_v6 p4)), .val (.int (f0_v16 p5)), .val (.int (f0_s0_31 p6)), .val (.int (f0_s0_45 p6)), .val (.int (f0_v54 p6)), .val (.long (f0_s0_78 p5)), .second, .val (.int (p2.toInt8.toInt32)), .val (.int (p2.toUInt32.toUInt16.toUInt32.toInt32)), .unset, .unset, .unset, .unset, .unset, .unset, .unset, .unset, .unset]) rfl ?_
    show Steps p.tables e below (s₁.setTop (mkF m 88 #[.val (.long q1), .second, .val (.int p2), .val (.int p3), .val (.int p4), .val (.int p5), .val (.int p6), .val (.int (f0_v6 p4)), .val (.int (f0_v16 p5)), .val (.int (f0_s0_31 p6)), .val (.int (f0_s0_45 p6)), .val (.int (f0_v54 p6)), .val (.long (f0_s0_78 p5)), .second, .val (.int (p2.toInt8.toInt32)), .val (.int (p2.toUInt32.toUInt16.toUInt32.toInt32)), .unset, .unset, .unset, .unset, .unset, .unset, .unset, .unset, .unset] [])) _
    refine XS.iloadN X0.here hx rfl (hb hby at_88) rfl ?_
    show Steps p.tables e below (s₁.setTop (mkF m 89 #[.val (.long q1), .second, .val (.int p2), .val (.int p3), .val (.int p4), .val (.int p5), .val (.int p6), .val (.int (f0_v6 p4)), .val (.int (f0_v16 p5)), .val (.int (f0_s0_31 p6)), .val (.int (f0_s0_45 p6)), .val (.int (f0_v54 p6)), .val (.long (f0_s0_78 p5)), .second, .val (.int (p2.toInt8.toInt32)), .val (.int (p2.toUInt32.toUInt16.toUInt32.toInt32)), .unset, .unset, .unset, .unset, .unset, .unset, .unset, .unset, .unset] [(.int p3)])) _
    refine X0.ldcInt hx hown (mvT hZ (hw _ (List.mem_of_getElem? (i := 1) rfl))) (g := (mkF m 89 #[.val (.long q1), .second, .val (.int p2), .val (.int p3), .val (.int p4), .val (.int p5), .val (.int p6), .val (.int (f0_v6 p4)), .val (.int (f0_v16 p5)), .val (.int (f0_s0_31 p6)), .val (.int (f0_s0_45 p6)), .val (.int (f0_v54 p6)), .val (.long (f0_s0_78 p5)), .second, .val (.int (p2.toInt8.toInt32)), .val (.int (p2.toUInt32.toUInt16.toUInt32.toInt32)), .unset, .unset, .unset, .unset, .unset, .unset, .unset, .unset, .unset] [(.int p3)])) rfl (hb hby at_89) _ ?_
    show Steps p.tables e below (s₁.setTop (mkF m 91 #[.val (.long q1), .second, .val (.int p2), .val (.int p3), .val (.int p4), .val (.int p5), .val (.int p6), .val (.int (f0_v6 p4)), .val (.int (f0_v16 p5)), .val (.int (f0_s0_31 p6)), .val (.int (f0_s0_45 p6)), .val (.int (f0_v54 p6)), .val (.long (f0_s0_78 p5)), .second, .val (.int (p2.toInt8.toInt32)), .val (.int (p2.toUInt32.toUInt16.toUInt32.toInt32)), .unset, .unset, .unset, .unset, .unset, .unset, .unset, .unset, .unset] [(.int (65535 : Int32)), (.int p3)])) _
    refine XS.iand X0.here hx rfl (hb hby at_91) rfl ?_
    show Steps p.tables e below (s₁.setTop (mkF m 92 #[.val (.long q1), .second, .val (.int p2), .val (.int p3), .val (.int p4), .val (.int p5), .val (.int p6), .val (.int (f0_v6 p4)), .val (.int (f0_v16 p5)), .val (.int (f0_s0_31 p6)), .val (.int (f0_s0_45 p6)), .val (.int (f0_v54 p6)), .val (.long (f0_s0_78 p5)), .second, .val (.int (p2.toInt8.toInt32)), .val (.int (p2.toUInt32.toUInt16.toUInt32.toInt32)), .unset, .unset, .unset, .unset, .unset, .unset, .unset, .unset, .unset] [(.int (p3 &&& (65535 : Int32)))])) _
    refine XS.istore X0.here hx rfl (hb hby at_92) rfl (l' := #[.val (.long q1), .second, .val (.int p2), .val (.int p3), .val (.int p4), .val (.int p5), .val (.int p6), .val (.int (f0_v6 p4)), .val (.int (f0_v16 p5)), .val (.int (f0_s0_31 p6)), .val (.int (f0_s0_45 p6)), .val (.int (f0_v54 p6)), .val (.long (f0_s0_78 p5)), .second, .val (.int (p2.toInt8.toInt32)), .val (.int (p2.toUInt32.toUInt16.toUInt32.toInt32)), .val (.int (p3 &&& (65535 : Int32))), .unset, .unset, .unset, .unset, .unset, .unset, .unset, .unset]) rfl ?_
    show Steps p.tables e below (s₁.setTop (mkF m 94 #[.val (.long q1), .second, .val (.int p2), .val (.int p3), .val (.int p4), .val (.int p5), .val (.int p6), .val (.int (f0_v6 p4)), .val (.int (f0_v16 p5)), .val (.int (f0_s0_31 p6)), .val (.int (f0_s0_45 p6)), .val (.int (f0_v54 p6)), .val (.long (f0_s0_78 p5)), .second, .val (.int (p2.toInt8.toInt32)), .val (.int (p2.toUInt32.toUInt16.toUInt32.toInt32)), .val (.int (p3 &&& (65535 : Int32))), .unset, .unset, .unset, .unset, .unset, .unset, .unset, .unset] [])) _
    refine XS.iload X0.here hx rfl (hb hby at_94) rfl ?_
    show Steps p.tables e below (s₁.setTop (mkF m 96 #[.val (.long q1), .second, .val (.int p2), .val (.int p3), .val (.int p4), .val (.int p5), .val (.int p6), .val (.int (f0_v6 p4)), .val (.int (f0_v16 p5)), .val (.int (f0_s0_31 p6)), .val (.int (f0_s0_45 p6)), .val (.int (f0_v54 p6)), .val (.long (f0_s0_78 p5)), .second, .val (.int (p2.toInt8.toInt32)), .val (.int (p2.toUInt32.toUInt16.toUInt32.toInt32)), .val (.int (p3 &&& (65535 : Int32))), .unset, .unset, .unset, .unset, .unset, .unset, .unset, .unset] [(.int (p3 &&& (65535 : Int32)))])) _
    refine XS.sipush X0.here hx rfl (hb hby at_96) ?_
    exact k
  have pre14 : ∀ t, Steps p.tables e below (s₁.setTop (mkF m 113 #[.val (.long q1), .second, .val (.int p2), .val (.int p3), .val (.int p4), .val (.int p5), .val (.int p6), .val (.int (f0_v6 p4)), .val (.int (f0_v16 p5)), .val (.int (f0_s0_31 p6)), .val (.int (f0_s0_45 p6)), .val (.int (f0_v54 p6)), .val (.long (f0_s0_78 p5)), .second, .val (.int (p2.toInt8.toInt32)), .val (.int (p2.toUInt32.toUInt16.toUInt32.toInt32)), .val (.int (p3 &&& (65535 : Int32))), .unset, .unset, .unset, .unset, .unset, .unset, .unset, .unset] [(.int (f0_s0_113 p3))])) t → Steps p.tables e below (s₁.setTop (entryFrame m #[(.long q1), (.int p2), (.int p3), (.int p4), (.int p5), (.int p6)] maxLocals)) t := by
    intro t k
    by_cases hc99 : (p3 &&& (65535 : Int32)) < (128 : Int32)
    · have eq15 := (show (f0_s0_113 p3) = ((p3 &&& (65535 : Int32)) + (128 : Int32)) from by unfold f0_s0_113; simp only [if_pos hc99])
      try rw [eq15] at k
      refine pre13 t ?_
      show Steps p.tables e below (s₁.setTop (mkF m 99 #[.val (.long q1), .second, .val (.int p2), .val (.int p3), .val (.int p4), .val (.int p5), .val (.int p6), .val (.int (f0_v6 p4)), .val (.int (f0_v16 p5)), .val (.int (f0_s0_31 p6)), .val (.int (f0_s0_45 p6)), .val (.int (f0_v54 p6)), .val (.long (f0_s0_78 p5)), .second, .val (.int (p2.toInt8.toInt32)), .val (.int (p2.toUInt32.toUInt16.toUInt32.toInt32)), .val (.int (p3 &&& (65535 : Int32))), .unset, .unset, .unset, .unset, .unset, .unset, .unset, .unset] [(.int (128 : Int32)), (.int (p3 &&& (65535 : Int32)))])) _
      refine XS.icmpNo X0.here hx rfl (hb hby at_99) rfl (tlt hc99).2.1 ?_
      show Steps p.tables e below (s₁.setTop (mkF m 102 #[.val (.long q1), .second, .val (.int p2), .val (.int p3), .val (.int p4), .val (.int p5), .val (.int p6), .val (.int (f0_v6 p4)), .val (.int (f0_v16 p5)), .val (.int (f0_s0_31 p6)), .val (.int (f0_s0_45 p6)), .val (.int (f0_v54 p6)), .val (.long (f0_s0_78 p5)), .second, .val (.int (p2.toInt8.toInt32)), .val (.int (p2.toUInt32.toUInt16.toUInt32.toInt32)), .val (.int (p3 &&& (65535 : Int32))), .unset, .unset, .unset, .unset, .unset, .unset, .unset, .unset] [])) _
      refine XS.iload X0.here hx rfl (hb hby at_102) rfl ?_
      show Steps p.tables e below (s₁.setTop (mkF m 104 #[.val (.long q1), .second, .val (.int p2), .val (.int p3), .val (.int p4), .val (.int p5), .val (.int p6), .val (.int (f0_v6 p4)), .val (.int (f0_v16 p5)), .val (.int (f0_s0_31 p6)), .val (.int (f0_s0_45 p6)), .val (.int (f0_v54 p6)), .val (.long (f0_s0_78 p5)), .second, .val (.int (p2.toInt8.toInt32)), .val (.int (p2.toUInt32.toUInt16.toUInt32.toInt32)), .val (.int (p3 &&& (65535 : Int32))), .unset, .unset, .unset, .unset, .unset, .unset, .unset, .unset] [(.int (p3 &&& (65535 : Int32)))])) _
      refine XS.sipush X0.here hx rfl (hb hby at_104) ?_
      show Steps p.tables e below (s₁.setTop (mkF m 107 #[.val (.long q1), .second, .val (.int p2), .val (.int p3), .val (.int p4), .val (.int p5), .val (.int p6), .val (.int (f0_v6 p4)), .val (.int (f0_v16 p5)), .val (.int (f0_s0_31 p6)), .val (.int (f0_s0_45 p6)), .val (.int (f0_v54 p6)), .val (.long (f0_s0_78 p5)), .second, .val (.int (p2.toInt8.toInt32)), .val (.int (p2.toUInt32.toUInt16.toUInt32.toInt32)), .val (.int (p3 &&& (65535 : Int32))), .unset, .unset, .unset, .unset, .unset, .unset, .unset, .unset] [(.int (128 : Int32)), (.int (p3 &&& (65535 : Int32)))])) _
      refine XS.iadd X0.here hx rfl (hb hby at_107) rfl ?_
      show Steps p.tables e below (s₁.setTop (mkF m 108 #[.val (.long q1), .second, .val (.int p2), .val (.int p3), .val (.int p4), .val (.int p5), .val (.int p6), .val (.int (f0_v6 p4)), .val (.int (f0_v16 p5)), .val (.int (f0_s0_31 p6)), .val (.int (f0_s0_45 p6)), .val (.int (f0_v54 p6)), .val (.long (f0_s0_78 p5)), .second, .val (.int (p2.toInt8.toInt32)), .val (.int (p2.toUInt32.toUInt16.toUInt32.toInt32)), .val (.int (p3 &&& (65535 : Int32))), .unset, .unset, .unset, .unset, .unset, .unset, .unset, .unset] [(.int ((p3 &&& (65535 : Int32)) + (128 : Int32)))])) _
      refine XS.goto X0.here hx rfl (pc0 := 108) (pc' := 113) rfl (hb hby at_108) (by decide) (by decide) ?_
      exact k
    · have eq16 := (show (f0_s0_113 p3) = (p3 &&& (65535 : Int32)) from by unfold f0_s0_113; simp only [if_neg hc99])
      try rw [eq16] at k
      refine pre13 t ?_
      show Steps p.tables e below (s₁.setTop (mkF m 99 #[.val (.long q1), .second, .val (.int p2), .val (.int p3), .val (.int p4), .val (.int p5), .val (.int p6), .val (.int (f0_v6 p4)), .val (.int (f0_v16 p5)), .val (.int (f0_s0_31 p6)), .val (.int (f0_s0_45 p6)), .val (.int (f0_v54 p6)), .val (.long (f0_s0_78 p5)), .second, .val (.int (p2.toInt8.toInt32)), .val (.int (p2.toUInt32.toUInt16.toUInt32.toInt32)), .val (.int (p3 &&& (65535 : Int32))), .unset, .unset, .unset, .unset, .unset, .unset, .unset, .unset] [(.int (128 : Int32)), (.int (p3 &&& (65535 : Int32)))])) _
      refine XS.icmpYes X0.here hx rfl (pc0 := 99) (pc' := 111) rfl (hb hby at_99) rfl (flt hc99).2.1 (by decide) (by decide) ?_
      show Steps p.tables e below (s₁.setTop (mkF m 111 #[.val (.long q1), .second, .val (.int p2), .val (.int p3), .val (.int p4), .val (.int p5), .val (.int p6), .val (.int (f0_v6 p4)), .val (.int (f0_v16 p5)), .val (.int (f0_s0_31 p6)), .val (.int (f0_s0_45 p6)), .val (.int (f0_v54 p6)), .val (.long (f0_s0_78 p5)), .second, .val (.int (p2.toInt8.toInt32)), .val (.int (p2.toUInt32.toUInt16.toUInt32.toInt32)), .val (.int (p3 &&& (65535 : Int32))), .unset, .unset, .unset, .unset, .unset, .unset, .unset, .unset] [])) _
      refine XS.iload X0.here hx rfl (hb hby at_111) rfl ?_
      exact k
  obtain ⟨T7, h7, k7, X7, e7, E7, A7, st7⟩ := newP X0 hx hZ (hw _ (List.mem_of_getElem? (i := 2) rfl)) e0 (g := (mkF m 118 #[.val (.long q1), .second, .val (.int p2), .val (.int p3), .val (.int p4), .val (.int p5), .val (.int p6), .val (.int (f0_v6 p4)), .val (.int (f0_v16 p5)), .val (.int (f0_s0_31 p6)), .val (.int (f0_s0_45 p6)), .val (.int (f0_v54 p6)), .val (.long (f0_s0_78 p5)), .second, .val (.int (p2.toInt8.toInt32)), .val (.int (p2.toUInt32.toUInt16.toUInt32.toInt32)), .val (.int (p3 &&& (65535 : Int32))), .val (.int ((f0_s0_113 p3).toUInt32.toUInt16.toUInt32.toInt32)), .unset, .unset, .unset, .unset, .unset, .unset, .unset] [(.int (12 : Int32))])) rfl (hb hby at_118) rfl (by decide) (cap := 12) (by decide) (by decide) (by decide) (by decide)
  obtain ⟨b7, g7⟩ : ∃ z, z = h0.size := ⟨_, rfl⟩
  rw [← g7] at A7 st7
  have g_b7 : n0 ≤ b7 := Nat.le_trans Z0 (Nat.le_of_eq g7.symm)
  have c8 : n0 ≤ h7.size := Nat.le_trans Z0 E7.1
  have c9 : Sta Z h7 "java/lang/String" "COMPACT_STRINGS" "Z" (.int w_CS) := S_COMPACT_STRINGS.ext E7
  have c10 : Sta Z h7 "jdk/internal/util/Preconditions" "SIOOBE_FORMATTER" "Ljava/util/function/BiFunction;" w_SIO := S_SIOOBE_FORMATTER.ext E7
  have c11 : Sta Z h7 "java/lang/StringUTF16" "$assertionsDisabled" "Z" (.int (1 : Int32)) := S__assertionsDisabled.ext E7
  have c12 : Sta Z h7 "java/lang/StringUTF16" "HI_BYTE_SHIFT" "I" (.int (0 : Int32)) := S_HI_BYTE_SHIFT.ext E7
  have c13 : Sta Z h7 "java/lang/StringUTF16" "LO_BYTE_SHIFT" "I" (.int (8 : Int32)) := S_LO_BYTE_SHIFT.ext E7
  have c14 : IAr Z h7 b7 .byte (12 : Int32) (fun _ => 0) := IAr.new A7 (by decide) rfl
  obtain ⟨T15, h15, k15, X15, e15, E15, A15, st15⟩ := newP X7 hx hZ (hw _ (List.mem_of_getElem? (i := 3) rfl)) e7 (g := (mkF m 124 #[.val (.long q1), .second, .val (.int p2), .val (.int p3), .val (.int p4), .val (.int p5), .val (.int p6), .val (.int (f0_v6 p4)), .val (.int (f0_v16 p5)), .val (.int (f0_s0_31 p6)), .val (.int (f0_s0_45 p6)), .val (.int (f0_v54 p6)), .val (.long (f0_s0_78 p5)), .second, .val (.int (p2.toInt8.toInt32)), .val (.int (p2.toUInt32.toUInt16.toUInt32.toInt32)), .val (.int (p3 &&& (65535 : Int32))), .val (.int ((f0_s0_113 p3).toUInt32.toUInt16.toUInt32.toInt32)), .val (.ref b7), .unset, .unset, .unset, .unset, .unset, .unset] [(.int (12 : Int32))])) rfl (hb hby at_124) rfl (by decide) (cap := 12) (by decide) (by decide) (by decide) (by decide)
  obtain ⟨b15, g15⟩ : ∃ z, z = h7.size := ⟨_, rfl⟩
  rw [← g15] at A15 st15
  have ne_b7_b15 : b7 ≠ b15 := Nat.ne_of_lt (Nat.lt_of_lt_of_le c14.lt (Nat.le_of_eq g15.symm))
  have g_b15 : n0 ≤ b15 := Nat.le_trans c8 (Nat.le_of_eq g15.symm)
  have c16 : n0 ≤ h15.size := Nat.le_trans c8 E15.1
  have c17 : Sta Z h15 "java/lang/String" "COMPACT_STRINGS" "Z" (.int w_CS) := c9.ext E15
  have c18 : Sta Z h15 "jdk/internal/util/Preconditions" "SIOOBE_FORMATTER" "Ljava/util/function/BiFunction;" w_SIO := c10.ext E15
  have c19 : Sta Z h15 "java/lang/StringUTF16" "$assertionsDisabled" "Z" (.int (1 : Int32)) := c11.ext E15
  have c20 : Sta Z h15 "java/lang/StringUTF16" "HI_BYTE_SHIFT" "I" (.int (0 : Int32)) := c12.ext E15
  have c21 : Sta Z h15 "java/lang/StringUTF16" "LO_BYTE_SHIFT" "I" (.int (8 : Int32)) := c13.ext E15
  have c22 : IAr Z h15 b7 .byte (12 : Int32) (fun _ => 0) := c14.ext E15
  have c23 : IAr Z h15 b15 .char (12 : Int32) (fun _ => 0) := IAr.new A15 (by decide) rfl
  obtain ⟨T24, h24, X24, e24, W24, V24, st24⟩ := sB X15 hx hZ e15 c22 (j := (0 : Int32)) ⟨by decide, by first | decide | assumption⟩ (g := (mkF m 133 #[.val (.long q1), .second, .val (.int p2), .val (.int p3), .val (.int p4), .val (.int p5), .val (.int p6), .val (.int (f0_v6 p4)), .val (.int (f0_v16 p5)), .val (.int (f0_s0_31 p6)), .val (.int (f0_s0_45 p6)), .val (.int (f0_v54 p6)), .val (.long (f0_s0_78 p5)), .second, .val (.int (p2.toInt8.toInt32)), .val (.int (p2.toUInt32.toUInt16.toUInt32.toInt32)), .val (.int (p3 &&& (65535 : Int32))), .val (.int ((f0_s0_113 p3).toUInt32.toUInt16.toUInt32.toInt32)), .val (.ref b7), .val (.ref b15), .unset, .unset, .unset, .unset, .unset] [(.int (p2.toInt8.toInt32)), (.int (0 : Int32)), (.ref b7)])) rfl rfl (hb hby at_133)
  have N24 := Fr.snoc X24 N0 g_b7
  have c25 : n0 ≤ h24.size := Nat.le_trans c16 (Keep.of_wr W24).1
  have c26 : Sta Z h24 "java/lang/String" "COMPACT_STRINGS" "Z" (.int w_CS) := c17.wr W24
  have c27 : Sta Z h24 "jdk/internal/util/Preconditions" "SIOOBE_FORMATTER" "Ljava/util/function/BiFunction;" w_SIO := c18.wr W24
  have c28 : Sta Z h24 "java/lang/StringUTF16" "$assertionsDisabled" "Z" (.int (1 : Int32)) := c19.wr W24
  have c29 : Sta Z h24 "java/lang/StringUTF16" "HI_BYTE_SHIFT" "I" (.int (0 : Int32)) := c20.wr W24
  have c30 : Sta Z h24 "java/lang/StringUTF16" "LO_BYTE_SHIFT" "I" (.int (8 : Int32)) := c21.wr W24
  have c31 : IAr Z h24 b7 .byte (12 : Int32) (f0_v133 p2) := V24
  have c32 : IAr Z h24 b15 .char (12 : Int32) (fun _ => 0) := c23.other W24 (Ne.symm ne_b7_b15)
  obtain ⟨T33, h33, X33, e33, W33, V33, st33⟩ := sB X24 hx hZ e24 c31 (j := (1 : Int32)) ⟨by decide, by first | decide | assumption⟩ (g := (mkF m 139 #[.val (.long q1), .second, .val (.int p2), .val (.int p3), .val (.int p4), .val (.int p5), .val (.int p6), .val (.int (f0_v6 p4)), .val (.int (f0_v16 p5)), .val (.int (f0_s0_31 p6)), .val (.int (f0_s0_45 p6)), .val (.int (f0_v54 p6)), .val (.long (f0_s0_78 p5)), .second, .val (.int (p2.toInt8.toInt32)), .val (.int (p2.toUInt32.toUInt16.toUInt32.toInt32)), .val (.int (p3 &&& (65535 : Int32))), .val (.int ((f0_s0_113 p3).toUInt32.toUInt16.toUInt32.toInt32)), .val (.ref b7), .val (.ref b15), .unset, .unset, .unset, .unset, .unset] [(.int (p2.toInt8.toInt32)), (.int (1 : Int32)), (.ref b7)])) rfl rfl (hb hby at_139)
  have N33 := Fr.snoc X33 N24 g_b7
  have c34 : n0 ≤ h33.size := Nat.le_trans c25 (Keep.of_wr W33).1
  have c35 : Sta Z h33 "java/lang/String" "COMPACT_STRINGS" "Z" (.int w_CS) := c26.wr W33
  have c36 : Sta Z h33 "jdk/internal/util/Preconditions" "SIOOBE_FORMATTER" "Ljava/util/function/BiFunction;" w_SIO := c27.wr W33
  have c37 : Sta Z h33 "java/lang/StringUTF16" "$assertionsDisabled" "Z" (.int (1 : Int32)) := c28.wr W33
  have c38 : Sta Z h33 "java/lang/StringUTF16" "HI_BYTE_SHIFT" "I" (.int (0 : Int32)) := c29.wr W33
  have c39 : Sta Z h33 "java/lang/StringUTF16" "LO_BYTE_SHIFT" "I" (.int (8 : Int32)) := c30.wr W33
  have c40 : IAr Z h33 b7 .byte (12 : Int32) (f0_v139 p2) := V33
  have c41 : IAr Z h33 b15 .char (12 : Int32) (fun _ => 0) := c32.other W33 (Ne.symm ne_b7_b15)
  obtain ⟨T42, h42, X42, e42, W42, V42, st42⟩ := sB X33 hx hZ e33 c40 (j := (2 : Int32)) ⟨by decide, by first | decide | assumption⟩ (g := (mkF m 145 #[.val (.long q1), .second, .val (.int p2), .val (.int p3), .val (.int p4), .val (.int p5), .val (.int p6), .val (.int (f0_v6 p4)), .val (.int (f0_v16 p5)), .val (.int (f0_s0_31 p6)), .val (.int (f0_s0_45 p6)), .val (.int (f0_v54 p6)), .val (.long (f0_s0_78 p5)), .second, .val (.int (p2.toInt8.toInt32)), .val (.int (p2.toUInt32.toUInt16.toUInt32.toInt32)), .val (.int (p3 &&& (65535 : Int32))), .val (.int ((f0_s0_113 p3).toUInt32.toUInt16.toUInt32.toInt32)), .val (.ref b7), .val (.ref b15), .unset, .unset, .unset, .unset, .unset] [(.int (p2.toInt8.toInt32)), (.int (2 : Int32)), (.ref b7)])) rfl rfl (hb hby at_145)
  have N42 := Fr.snoc X42 N33 g_b7
  have c43 : n0 ≤ h42.size := Nat.le_trans c34 (Keep.of_wr W42).1
  have c44 : Sta Z h42 "java/lang/String" "COMPACT_STRINGS" "Z" (.int w_CS) := c35.wr W42
  have c45 : Sta Z h42 "jdk/internal/util/Preconditions" "SIOOBE_FORMATTER" "Ljava/util/function/BiFunction;" w_SIO := c36.wr W42
  have c46 : Sta Z h42 "java/lang/StringUTF16" "$assertionsDisabled" "Z" (.int (1 : Int32)) := c37.wr W42
  have c47 : Sta Z h42 "java/lang/StringUTF16" "HI_BYTE_SHIFT" "I" (.int (0 : Int32)) := c38.wr W42
  have c48 : Sta Z h42 "java/lang/StringUTF16" "LO_BYTE_SHIFT" "I" (.int (8 : Int32)) := c39.wr W42
  have c49 : IAr Z h42 b7 .byte (12 : Int32) (f0_v145 p2) := V42
  have c50 : IAr Z h42 b15 .char (12 : Int32) (fun _ => 0) := c41.other W42 (Ne.symm ne_b7_b15)
  obtain ⟨T51, h51, X51, e51, W51, V51, st51⟩ := sB X42 hx hZ e42 c49 (j := (8 : Int32)) ⟨by decide, by first | decide | assumption⟩ (g := (mkF m 152 #[.val (.long q1), .second, .val (.int p2), .val (.int p3), .val (.int p4), .val (.int p5), .val (.int p6), .val (.int (f0_v6 p4)), .val (.int (f0_v16 p5)), .val (.int (f0_s0_31 p6)), .val (.int (f0_s0_45 p6)), .val (.int (f0_v54 p6)), .val (.long (f0_s0_78 p5)), .second, .val (.int (p2.toInt8.toInt32)), .val (.int (p2.toUInt32.toUInt16.toUInt32.toInt32)), .val (.int (p3 &&& (65535 : Int32))), .val (.int ((f0_s0_113 p3).toUInt32.toUInt16.toUInt32.toInt32)), .val (.ref b7), .val (.ref b15), .unset, .unset, .unset, .unset, .unset] [(.int (p2.toInt8.toInt32)), (.int (8 : Int32)), (.ref b7)])) rfl rfl (hb hby at_152)
  have N51 := Fr.snoc X51 N42 g_b7
  have c52 : n0 ≤ h51.size := Nat.le_trans c43 (Keep.of_wr W51).1
  have c53 : Sta Z h51 "java/lang/String" "COMPACT_STRINGS" "Z" (.int w_CS) := c44.wr W51
  have c54 : Sta Z h51 "jdk/internal/util/Preconditions" "SIOOBE_FORMATTER" "Ljava/util/function/BiFunction;" w_SIO := c45.wr W51
  have c55 : Sta Z h51 "java/lang/StringUTF16" "$assertionsDisabled" "Z" (.int (1 : Int32)) := c46.wr W51
  have c56 : Sta Z h51 "java/lang/StringUTF16" "HI_BYTE_SHIFT" "I" (.int (0 : Int32)) := c47.wr W51
  have c57 : Sta Z h51 "java/lang/StringUTF16" "LO_BYTE_SHIFT" "I" (.int (8 : Int32)) := c48.wr W51
  have c58 : IAr Z h51 b7 .byte (12 : Int32) (f0_v152 p2) := V51
  have c59 : IAr Z h51 b15 .char (12 : Int32) (fun _ => 0) := c50.other W51 (Ne.symm ne_b7_b15)
  obtain ⟨T60, h60, X60, e60, W60, V60, st60⟩ := sB X51 hx hZ e51 c58 (j := (9 : Int32)) ⟨by decide, by first | decide | assumption⟩ (g := (mkF m 159 #[.val (.long q1), .second, .val (.int p2), .val (.int p3), .val (.int p4), .val (.int p5), .val (.int p6), .val (.int (f0_v6 p4)), .val (.int (f0_v16 p5)), .val (.int (f0_s0_31 p6)), .val (.int (f0_s0_45 p6)), .val (.int (f0_v54 p6)), .val (.long (f0_s0_78 p5)), .second, .val (.int (p2.toInt8.toInt32)), .val (.int (p2.toUInt32.toUInt16.toUInt32.toInt32)), .val (.int (p3 &&& (65535 : Int32))), .val (.int ((f0_s0_113 p3).toUInt32.toUInt16.toUInt32.toInt32)), .val (.ref b7), .val (.ref b15), .unset, .unset, .unset, .unset, .unset] [(.int (p2.toInt8.toInt32)), (.int (9 : Int32)), (.ref b7)])) rfl rfl (hb hby at_159)
  have N60 := Fr.snoc X60 N51 g_b7
  have c61 : n0 ≤ h60.size := Nat.le_trans c52 (Keep.of_wr W60).1
  have c62 : Sta Z h60 "java/lang/String" "COMPACT_STRINGS" "Z" (.int w_CS) := c53.wr W60
  have c63 : Sta Z h60 "jdk/internal/util/Preconditions" "SIOOBE_FORMATTER" "Ljava/util/function/BiFunction;" w_SIO := c54.wr W60
  have c64 : Sta Z h60 "java/lang/StringUTF16" "$assertionsDisabled" "Z" (.int (1 : Int32)) := c55.wr W60
  have c65 : Sta Z h60 "java/lang/StringUTF16" "HI_BYTE_SHIFT" "I" (.int (0 : Int32)) := c56.wr W60
  have c66 : Sta Z h60 "java/lang/StringUTF16" "LO_BYTE_SHIFT" "I" (.int (8 : Int32)) := c57.wr W60
  have c67 : IAr Z h60 b7 .byte (12 : Int32) (f0_v159 p2) := V60
  have c68 : IAr Z h60 b15 .char (12 : Int32) (fun _ => 0) := c59.other W60 (Ne.symm ne_b7_b15)
  obtain ⟨T69, h69, X69, e69, W69, V69, st69⟩ := sB X60 hx hZ e60 c67 (j := (10 : Int32)) ⟨by decide, by first | decide | assumption⟩ (g := (mkF m 166 #[.val (.long q1), .second, .val (.int p2), .val (.int p3), .val (.int p4), .val (.int p5), .val (.int p6), .val (.int (f0_v6 p4)), .val (.int (f0_v16 p5)), .val (.int (f0_s0_31 p6)), .val (.int (f0_s0_45 p6)), .val (.int (f0_v54 p6)), .val (.long (f0_s0_78 p5)), .second, .val (.int (p2.toInt8.toInt32)), .val (.int (p2.toUInt32.toUInt16.toUInt32.toInt32)), .val (.int (p3 &&& (65535 : Int32))), .val (.int ((f0_s0_113 p3).toUInt32.toUInt16.toUInt32.toInt32)), .val (.ref b7), .val (.ref b15), .unset, .unset, .unset, .unset, .unset] [(.int (p2.toInt8.toInt32)), (.int (10 : Int32)), (.ref b7)])) rfl rfl (hb hby at_166)
  have N69 := Fr.snoc X69 N60 g_b7
  have c70 : n0 ≤ h69.size := Nat.le_trans c61 (Keep.of_wr W69).1
  have c71 : Sta Z h69 "java/lang/String" "COMPACT_STRINGS" "Z" (.int w_CS) := c62.wr W69
  have c72 : Sta Z h69 "jdk/internal/util/Preconditions" "SIOOBE_FORMATTER" "Ljava/util/function/BiFunction;" w_SIO := c63.wr W69
  have c73 : Sta Z h69 "java/lang/StringUTF16" "$assertionsDisabled" "Z" (.int (1 : Int32)) := c64.wr W69
  have c74 : Sta Z h69 "java/lang/StringUTF16" "HI_BYTE_SHIFT" "I" (.int (0 : Int32)) := c65.wr W69
  have c75 : Sta Z h69 "java/lang/StringUTF16" "LO_BYTE_SHIFT" "I" (.int (8 : Int32)) := c66.wr W69
  have c76 : IAr Z h69 b7 .byte (12 : Int32) (f0_v166 p2) := V69
  have c77 : IAr Z h69 b15 .char (12 : Int32) (fun _ => 0) := c68.other W69 (Ne.symm ne_b7_b15)
  obtain ⟨T78, h78, X78, e78, W78, V78, st78⟩ := sB X69 hx hZ e69 c76 (j := (11 : Int32)) ⟨by decide, by first | decide | assumption⟩ (g := (mkF m 173 #[.val (.long q1), .second, .val (.int p2), .val (.int p3), .val (.int p4), .val (.int p5), .val (.int p6), .val (.int (f0_v6 p4)), .val (.int (f0_v16 p5)), .val (.int (f0_s0_31 p6)), .val (.int (f0_s0_45 p6)), .val (.int (f0_v54 p6)), .val (.long (f0_s0_78 p5)), .second, .val (.int (p2.toInt8.toInt32)), .val (.int (p2.toUInt32.toUInt16.toUInt32.toInt32)), .val (.int (p3 &&& (65535 : Int32))), .val (.int ((f0_s0_113 p3).toUInt32.toUInt16.toUInt32.toInt32)), .val (.ref b7), .val (.ref b15), .unset, .unset, .unset, .unset, .unset] [(.int (p2.toInt8.toInt32)), (.int (11 : Int32)), (.ref b7)])) rfl rfl (hb hby at_173)
  have N78 := Fr.snoc X78 N69 g_b7
  have c79 : n0 ≤ h78.size := Nat.le_trans c70 (Keep.of_wr W78).1
  have c80 : Sta Z h78 "java/lang/String" "COMPACT_STRINGS" "Z" (.int w_CS) := c71.wr W78
  have c81 : Sta Z h78 "jdk/internal/util/Preconditions" "SIOOBE_FORMATTER" "Ljava/util/function/BiFunction;" w_SIO := c72.wr W78
  have c82 : Sta Z h78 "java/lang/StringUTF16" "$assertionsDisabled" "Z" (.int (1 : Int32)) := c73.wr W78
  have c83 : Sta Z h78 "java/lang/StringUTF16" "HI_BYTE_SHIFT" "I" (.int (0 : Int32)) := c74.wr W78
  have c84 : Sta Z h78 "java/lang/StringUTF16" "LO_BYTE_SHIFT" "I" (.int (8 : Int32)) := c75.wr W78
  have c85 : IAr Z h78 b7 .byte (12 : Int32) (f0_v173 p2) := V78
  have c86 : IAr Z h78 b15 .char (12 : Int32) (fun _ => 0) := c77.other W78 (Ne.symm ne_b7_b15)
  obtain ⟨T87, h87, X87, e87, W87, V87, st87⟩ := sC X78 hx hZ e78 c86 (j := (0 : Int32)) ⟨by decide, by first | decide | assumption⟩ (g := (mkF m 179 #[.val (.long q1), .second, .val (.int p2), .val (.int p3), .val (.int p4), .val (.int p5), .val (.int p6), .val (.int (f0_v6 p4)), .val (.int (f0_v16 p5)), .val (.int (f0_s0_31 p6)), .val (.int (f0_s0_45 p6)), .val (.int (f0_v54 p6)), .val (.long (f0_s0_78 p5)), .second, .val (.int (p2.toInt8.toInt32)), .val (.int (p2.toUInt32.toUInt16.toUInt32.toInt32)), .val (.int (p3 &&& (65535 : Int32))), .val (.int ((f0_s0_113 p3).toUInt32.toUInt16.toUInt32.toInt32)), .val (.ref b7), .val (.ref b15), .unset, .unset, .unset, .unset, .unset] [(.int (p2.toUInt32.toUInt16.toUInt32.toInt32)), (.int (0 : Int32)), (.ref b15)])) rfl rfl (hb hby at_179)
  have N87 := Fr.snoc X87 N78 g_b15
  have c88 : n0 ≤ h87.size := Nat.le_trans c79 (Keep.of_wr W87).1
  have c89 : Sta Z h87 "java/lang/String" "COMPACT_STRINGS" "Z" (.int w_CS) := c80.wr W87
  have c90 : Sta Z h87 "jdk/internal/util/Preconditions" "SIOOBE_FORMATTER" "Ljava/util/function/BiFunction;" w_SIO := c81.wr W87
  have c91 : Sta Z h87 "java/lang/StringUTF16" "$assertionsDisabled" "Z" (.int (1 : Int32)) := c82.wr W87
  have c92 : Sta Z h87 "java/lang/StringUTF16" "HI_BYTE_SHIFT" "I" (.int (0 : Int32)) := c83.wr W87
  have c93 : Sta Z h87 "java/lang/StringUTF16" "LO_BYTE_SHIFT" "I" (.int (8 : Int32)) := c84.wr W87
  have c94 : IAr Z h87 b7 .byte (12 : Int32) (f0_v173 p2) := c85.other W87 ne_b7_b15
  have c95 : IAr Z h87 b15 .char (12 : Int32) (f0_v179 p2) := V87
  obtain ⟨T96, h96, X96, e96, W96, V96, st96⟩ := sC X87 hx hZ e87 c95 (j := (1 : Int32)) ⟨by decide, by first | decide | assumption⟩ (g := (mkF m 185 #[.val (.long q1), .second, .val (.int p2), .val (.int p3), .val (.int p4), .val (.int p5), .val (.int p6), .val (.int (f0_v6 p4)), .val (.int (f0_v16 p5)), .val (.int (f0_s0_31 p6)), .val (.int (f0_s0_45 p6)), .val (.int (f0_v54 p6)), .val (.long (f0_s0_78 p5)), .second, .val (.int (p2.toInt8.toInt32)), .val (.int (p2.toUInt32.toUInt16.toUInt32.toInt32)), .val (.int (p3 &&& (65535 : Int32))), .val (.int ((f0_s0_113 p3).toUInt32.toUInt16.toUInt32.toInt32)), .val (.ref b7), .val (.ref b15), .unset, .unset, .unset, .unset, .unset] [(.int (p2.toUInt32.toUInt16.toUInt32.toInt32)), (.int (1 : Int32)), (.ref b15)])) rfl rfl (hb hby at_185)
  have N96 := Fr.snoc X96 N87 g_b15
  have c97 : n0 ≤ h96.size := Nat.le_trans c88 (Keep.of_wr W96).1
  have c98 : Sta Z h96 "java/lang/String" "COMPACT_STRINGS" "Z" (.int w_CS) := c89.wr W96
  have c99 : Sta Z h96 "jdk/internal/util/Preconditions" "SIOOBE_FORMATTER" "Ljava/util/function/BiFunction;" w_SIO := c90.wr W96
  have c100 : Sta Z h96 "java/lang/StringUTF16" "$assertionsDisabled" "Z" (.int (1 : Int32)) := c91.wr W96
  have c101 : Sta Z h96 "java/lang/StringUTF16" "HI_BYTE_SHIFT" "I" (.int (0 : Int32)) := c92.wr W96
  have c102 : Sta Z h96 "java/lang/StringUTF16" "LO_BYTE_SHIFT" "I" (.int (8 : Int32)) := c93.wr W96
  have c103 : IAr Z h96 b7 .byte (12 : Int32) (f0_v173 p2) := c94.other W96 ne_b7_b15
  have c104 : IAr Z h96 b15 .char (12 : Int32) (f0_v185 p2) := V96
  obtain ⟨T105, h105, X105, e105, W105, V105, st105⟩ := sC X96 hx hZ e96 c104 (j := (2 : Int32)) ⟨by decide, by first | decide | assumption⟩ (g := (mkF m 191 #[.val (.long q1), .second, .val (.int p2), .val (.int p3), .val (.int p4), .val (.int p5), .val (.int p6), .val (.int (f0_v6 p4)), .val (.int (f0_v16 p5)), .val (.int (f0_s0_31 p6)), .val (.int (f0_s0_45 p6)), .val (.int (f0_v54 p6)), .val (.long (f0_s0_78 p5)), .second, .val (.int (p2.toInt8.toInt32)), .val (.int (p2.toUInt32.toUInt16.toUInt32.toInt32)), .val (.int (p3 &&& (65535 : Int32))), .val (.int ((f0_s0_113 p3).toUInt32.toUInt16.toUInt32.toInt32)), .val (.ref b7), .val (.ref b15), .unset, .unset, .unset, .unset, .unset] [(.int (p2.toUInt32.toUInt16.toUInt32.toInt32)), (.int (2 : Int32)), (.ref b15)])) rfl rfl (hb hby at_191)
  have N105 := Fr.snoc X105 N96 g_b15
  have c106 : n0 ≤ h105.size := Nat.le_trans c97 (Keep.of_wr W105).1
  have c107 : Sta Z h105 "java/lang/String" "COMPACT_STRINGS" "Z" (.int w_CS) := c98.wr W105
  have c108 : Sta Z h105 "jdk/internal/util/Preconditions" "SIOOBE_FORMATTER" "Ljava/util/function/BiFunction;" w_SIO := c99.wr W105
  have c109 : Sta Z h105 "java/lang/StringUTF16" "$assertionsDisabled" "Z" (.int (1 : Int32)) := c100.wr W105
  have c110 : Sta Z h105 "java/lang/StringUTF16" "HI_BYTE_SHIFT" "I" (.int (0 : Int32)) := c101.wr W105
  have c111 : Sta Z h105 "java/lang/StringUTF16" "LO_BYTE_SHIFT" "I" (.int (8 : Int32)) := c102.wr W105
  have c112 : IAr Z h105 b7 .byte (12 : Int32) (f0_v173 p2) := c103.other W105 ne_b7_b15
  have c113 : IAr Z h105 b15 .char (12 : Int32) (f0_v191 p2) := V105
  obtain ⟨T114, h114, X114, e114, W114, V114, st114⟩ := sC X105 hx hZ e105 c113 (j := (8 : Int32)) ⟨by decide, by first | decide | assumption⟩ (g := (mkF m 198 #[.val (.long q1), .second, .val (.int p2), .val (.int p3), .val (.int p4), .val (.int p5), .val (.int p6), .val (.int (f0_v6 p4)), .val (.int (f0_v16 p5)), .val (.int (f0_s0_31 p6)), .val (.int (f0_s0_45 p6)), .val (.int (f0_v54 p6)), .val (.long (f0_s0_78 p5)), .second, .val (.int (p2.toInt8.toInt32)), .val (.int (p2.toUInt32.toUInt16.toUInt32.toInt32)), .val (.int (p3 &&& (65535 : Int32))), .val (.int ((f0_s0_113 p3).toUInt32.toUInt16.toUInt32.toInt32)), .val (.ref b7), .val (.ref b15), .unset, .unset, .unset, .unset, .unset] [(.int (p2.toUInt32.toUInt16.toUInt32.toInt32)), (.int (8 : Int32)), (.ref b15)])) rfl rfl (hb hby at_198)
  have N114 := Fr.snoc X114 N105 g_b15
  have c115 : n0 ≤ h114.size := Nat.le_trans c106 (Keep.of_wr W114).1
  have c116 : Sta Z h114 "java/lang/String" "COMPACT_STRINGS" "Z" (.int w_CS) := c107.wr W114
  have c117 : Sta Z h114 "jdk/internal/util/Preconditions" "SIOOBE_FORMATTER" "Ljava/util/function/BiFunction;" w_SIO := c108.wr W114
  have c118 : Sta Z h114 "java/lang/StringUTF16" "$assertionsDisabled" "Z" (.int (1 : Int32)) := c109.wr W114
  have c119 : Sta Z h114 "java/lang/StringUTF16" "HI_BYTE_SHIFT" "I" (.int (0 : Int32)) := c110.wr W114
  have c120 : Sta Z h114 "java/lang/StringUTF16" "LO_BYTE_SHIFT" "I" (.int (8 : Int32)) := c111.wr W114
  have c121 : IAr Z h114 b7 .byte (12 : Int32) (f0_v173 p2) := c112.other W114 ne_b7_b15
  have c122 : IAr Z h114 b15 .char (12 : Int32) (f0_v198 p2) := V114
  obtain ⟨T123, h123, X123, e123, W123, V123, st123⟩ := sC X114 hx hZ e114 c122 (j := (9 : Int32)) ⟨by decide, by first | decide | assumption⟩ (g := (mkF m 205 #[.val (.long q1), .second, .val (.int p2), .val (.int p3), .val (.int p4), .val (.int p5), .val (.int p6), .val (.int (f0_v6 p4)), .val (.int (f0_v16 p5)), .val (.int (f0_s0_31 p6)), .val (.int (f0_s0_45 p6)), .val (.int (f0_v54 p6)), .val (.long (f0_s0_78 p5)), .second, .val (.int (p2.toInt8.toInt32)), .val (.int (p2.toUInt32.toUInt16.toUInt32.toInt32)), .val (.int (p3 &&& (65535 : Int32))), .val (.int ((f0_s0_113 p3).toUInt32.toUInt16.toUInt32.toInt32)), .val (.ref b7), .val (.ref b15), .unset, .unset, .unset, .unset, .unset] [(.int (p2.toUInt32.toUInt16.toUInt32.toInt32)), (.int (9 : Int32)), (.ref b15)])) rfl rfl (hb hby at_205)
  have N123 := Fr.snoc X123 N114 g_b15
  have c124 : n0 ≤ h123.size := Nat.le_trans c115 (Keep.of_wr W123).1
  have c125 : Sta Z h123 "java/lang/String" "COMPACT_STRINGS" "Z" (.int w_CS) := c116.wr W123
  have c126 : Sta Z h123 "jdk/internal/util/Preconditions" "SIOOBE_FORMATTER" "Ljava/util/function/BiFunction;" w_SIO := c117.wr W123
  have c127 : Sta Z h123 "java/lang/StringUTF16" "$assertionsDisabled" "Z" (.int (1 : Int32)) := c118.wr W123
  have c128 : Sta Z h123 "java/lang/StringUTF16" "HI_BYTE_SHIFT" "I" (.int (0 : Int32)) := c119.wr W123
  have c129 : Sta Z h123 "java/lang/StringUTF16" "LO_BYTE_SHIFT" "I" (.int (8 : Int32)) := c120.wr W123
  have c130 : IAr Z h123 b7 .byte (12 : Int32) (f0_v173 p2) := c121.other W123 ne_b7_b15
  have c131 : IAr Z h123 b15 .char (12 : Int32) (f0_v205 p2) := V123
  obtain ⟨T132, h132, X132, e132, W132, V132, st132⟩ := sC X123 hx hZ e123 c131 (j := (10 : Int32)) ⟨by decide, by first | decide | assumption⟩ (g := (mkF m 212 #[.val (.long q1), .second, .val (.int p2), .val (.int p3), .val (.int p4), .val (.int p5), .val (.int p6), .val (.int (f0_v6 p4)), .val (.int (f0_v16 p5)), .val (.int (f0_s0_31 p6)), .val (.int (f0_s0_45 p6)), .val (.int (f0_v54 p6)), .val (.long (f0_s0_78 p5)), .second, .val (.int (p2.toInt8.toInt32)), .val (.int (p2.toUInt32.toUInt16.toUInt32.toInt32)), .val (.int (p3 &&& (65535 : Int32))), .val (.int ((f0_s0_113 p3).toUInt32.toUInt16.toUInt32.toInt32)), .val (.ref b7), .val (.ref b15), .unset, .unset, .unset, .unset, .unset] [(.int (p2.toUInt32.toUInt16.toUInt32.toInt32)), (.int (10 : Int32)), (.ref b15)])) rfl rfl (hb hby at_212)
  have N132 := Fr.snoc X132 N123 g_b15
  have c133 : n0 ≤ h132.size := Nat.le_trans c124 (Keep.of_wr W132).1
  have c134 : Sta Z h132 "java/lang/String" "COMPACT_STRINGS" "Z" (.int w_CS) := c125.wr W132
  have c135 : Sta Z h132 "jdk/internal/util/Preconditions" "SIOOBE_FORMATTER" "Ljava/util/function/BiFunction;" w_SIO := c126.wr W132
  have c136 : Sta Z h132 "java/lang/StringUTF16" "$assertionsDisabled" "Z" (.int (1 : Int32)) := c127.wr W132
  have c137 : Sta Z h132 "java/lang/StringUTF16" "HI_BYTE_SHIFT" "I" (.int (0 : Int32)) := c128.wr W132
  have c138 : Sta Z h132 "java/lang/StringUTF16" "LO_BYTE_SHIFT" "I" (.int (8 : Int32)) := c129.wr W132
  have c139 : IAr Z h132 b7 .byte (12 : Int32) (f0_v173 p2) := c130.other W132 ne_b7_b15
  have c140 : IAr Z h132 b15 .char (12 : Int32) (f0_v212 p2) := V132
  obtain ⟨T141, h141, X141, e141, W141, V141, st141⟩ := sC X132 hx hZ e132 c140 (j := (11 : Int32)) ⟨by decide, by first | decide | assumption⟩ (g := (mkF m 219 #[.val (.long q1), .second, .val (.int p2), .val (.int p3), .val (.int p4), .val (.int p5), .val (.int p6), .val (.int (f0_v6 p4)), .val (.int (f0_v16 p5)), .val (.int (f0_s0_31 p6)), .val (.int (f0_s0_45 p6)), .val (.int (f0_v54 p6)), .val (.long (f0_s0_78 p5)), .second, .val (.int (p2.toInt8.toInt32)), .val (.int (p2.toUInt32.toUInt16.toUInt32.toInt32)), .val (.int (p3 &&& (65535 : Int32))), .val (.int ((f0_s0_113 p3).toUInt32.toUInt16.toUInt32.toInt32)), .val (.ref b7), .val (.ref b15), .unset, .unset, .unset, .unset, .unset] [(.int (p2.toUInt32.toUInt16.toUInt32.toInt32)), (.int (11 : Int32)), (.ref b15)])) rfl rfl (hb hby at_219)
  have N141 := Fr.snoc X141 N132 g_b15
  have c142 : n0 ≤ h141.size := Nat.le_trans c133 (Keep.of_wr W141).1
  have c143 : Sta Z h141 "java/lang/String" "COMPACT_STRINGS" "Z" (.int w_CS) := c134.wr W141
  have c144 : Sta Z h141 "jdk/internal/util/Preconditions" "SIOOBE_FORMATTER" "Ljava/util/function/BiFunction;" w_SIO := c135.wr W141
  have c145 : Sta Z h141 "java/lang/StringUTF16" "$assertionsDisabled" "Z" (.int (1 : Int32)) := c136.wr W141
  have c146 : Sta Z h141 "java/lang/StringUTF16" "HI_BYTE_SHIFT" "I" (.int (0 : Int32)) := c137.wr W141
  have c147 : Sta Z h141 "java/lang/StringUTF16" "LO_BYTE_SHIFT" "I" (.int (8 : Int32)) := c138.wr W141
  have c148 : IAr Z h141 b7 .byte (12 : Int32) (f0_v173 p2) := c139.other W141 ne_b7_b15
  have c149 : IAr Z h141 b15 .char (12 : Int32) (f0_v219 p2) := V141
  obtain ⟨T150, h150, X150, e150, W150, V150, st150⟩ := sB X141 hx hZ e141 c148 (j := (f0_v6 p4)) (own_ix0 p4) (g := (mkF m 227 #[.val (.long q1), .second, .val (.int p2), .val (.int p3), .val (.int p4), .val (.int p5), .val (.int p6), .val (.int (f0_v6 p4)), .val (.int (f0_v16 p5)), .val (.int (f0_s0_31 p6)), .val (.int (f0_s0_45 p6)), .val (.int (f0_v54 p6)), .val (.long (f0_s0_78 p5)), .second, .val (.int (p2.toInt8.toInt32)), .val (.int (p2.toUInt32.toUInt16.toUInt32.toInt32)), .val (.int (p3 &&& (65535 : Int32))), .val (.int ((f0_s0_113 p3).toUInt32.toUInt16.toUInt32.toInt32)), .val (.ref b7), .val (.ref b15), .unset, .unset, .unset, .unset, .unset] [(.int ((q1.toInt32).toInt8.toInt32)), (.int (f0_v6 p4)), (.ref b7)])) rfl rfl (hb hby at_227)
  have N150 := Fr.snoc X150 N141 g_b7
  have c151 : n0 ≤ h150.size := Nat.le_trans c142 (Keep.of_wr W150).1
  have c152 : Sta Z h150 "java/lang/String" "COMPACT_STRINGS" "Z" (.int w_CS) := c143.wr W150
  have c153 : Sta Z h150 "jdk/internal/util/Preconditions" "SIOOBE_FORMATTER" "Ljava/util/function/BiFunction;" w_SIO := c144.wr W150
  have c154 : Sta Z h150 "java/lang/StringUTF16" "$assertionsDisabled" "Z" (.int (1 : Int32)) := c145.wr W150
  have c155 : Sta Z h150 "java/lang/StringUTF16" "HI_BYTE_SHIFT" "I" (.int (0 : Int32)) := c146.wr W150
  have c156 : Sta Z h150 "java/lang/StringUTF16" "LO_BYTE_SHIFT" "I" (.int (8 : Int32)) := c147.wr W150
  have c157 : IAr Z h150 b7 .byte (12 : Int32) (f0_v227 q1 p2 p4) := V150
  have c158 : IAr Z h150 b15 .char (12 : Int32) (f0_v219 p2) := c149.other W150 (Ne.symm ne_b7_b15)
  obtain ⟨T159, h159, X159, e159, W159, V159, st159⟩ := sB X150 hx hZ e150 c157 (j := ((f0_v6 p4) + (1 : Int32))) (own_ix p4 1 (by decide)) (g := (mkF m 240 #[.val (.long q1), .second, .val (.int p2), .val (.int p3), .val (.int p4), .val (.int p5), .val (.int p6), .val (.int (f0_v6 p4)), .val (.int (f0_v16 p5)), .val (.int (f0_s0_31 p6)), .val (.int (f0_s0_45 p6)), .val (.int (f0_v54 p6)), .val (.long (f0_s0_78 p5)), .second, .val (.int (p2.toInt8.toInt32)), .val (.int (p2.toUInt32.toUInt16.toUInt32.toInt32)), .val (.int (p3 &&& (65535 : Int32))), .val (.int ((f0_s0_113 p3).toUInt32.toUInt16.toUInt32.toInt32)), .val (.ref b7), .val (.ref b15), .unset, .unset, .unset, .unset, .unset] [(.int ((((q1.toUInt64 >>> ((8 : Int32) &&& 0x3f).toInt64.toUInt64).toInt64).toInt32).toInt8.toInt32)), (.int ((f0_v6 p4) + (1 : Int32))), (.ref b7)])) rfl rfl (hb hby at_240)
  have N159 := Fr.snoc X159 N150 g_b7
  have c160 : n0 ≤ h159.size := Nat.le_trans c151 (Keep.of_wr W159).1
  have c161 : Sta Z h159 "java/lang/String" "COMPACT_STRINGS" "Z" (.int w_CS) := c152.wr W159
  have c162 : Sta Z h159 "jdk/internal/util/Preconditions" "SIOOBE_FORMATTER" "Ljava/util/function/BiFunction;" w_SIO := c153.wr W159
  have c163 : Sta Z h159 "java/lang/StringUTF16" "$assertionsDisabled" "Z" (.int (1 : Int32)) := c154.wr W159
  have c164 : Sta Z h159 "java/lang/StringUTF16" "HI_BYTE_SHIFT" "I" (.int (0 : Int32)) := c155.wr W159
  have c165 : Sta Z h159 "java/lang/StringUTF16" "LO_BYTE_SHIFT" "I" (.int (8 : Int32)) := c156.wr W159
  have c166 : IAr Z h159 b7 .byte (12 : Int32) (f0_v240 q1 p2 p4) := V159
  have c167 : IAr Z h159 b15 .char (12 : Int32) (f0_v219 p2) := c158.other W159 (Ne.symm ne_b7_b15)
  obtain ⟨T168, h168, X168, e168, W168, V168, st168⟩ := sB X159 hx hZ e159 c166 (j := ((f0_v6 p4) + (2 : Int32))) (own_ix p4 2 (by decide)) (g := (mkF m 253 #[.val (.long q1), .second, .val (.int p2), .val (.int p3), .val (.int p4), .val (.int p5), .val (.int p6), .val (.int (f0_v6 p4)), .val (.int (f0_v16 p5)), .val (.int (f0_s0_31 p6)), .val (.int (f0_s0_45 p6)), .val (.int (f0_v54 p6)), .val (.long (f0_s0_78 p5)), .second, .val (.int (p2.toInt8.toInt32)), .val (.int (p2.toUInt32.toUInt16.toUInt32.toInt32)), .val (.int (p3 &&& (65535 : Int32))), .val (.int ((f0_s0_113 p3).toUInt32.toUInt16.toUInt32.toInt32)), .val (.ref b7), .val (.ref b15), .unset, .unset, .unset, .unset, .unset] [(.int ((((q1.toUInt64 >>> ((16 : Int32) &&& 0x3f).toInt64.toUInt64).toInt64).toInt32).toInt8.toInt32)), (.int ((f0_v6 p4) + (2 : Int32))), (.ref b7)])) rfl rfl (hb hby at_253)
  have N168 := Fr.snoc X168 N159 g_b7
  have c169 : n0 ≤ h168.size := Nat.le_trans c160 (Keep.of_wr W168).1
  have c170 : Sta Z h168 "java/lang/String" "COMPACT_STRINGS" "Z" (.int w_CS) := c161.wr W168
  have c171 : Sta Z h168 "jdk/internal/util/Preconditions" "SIOOBE_FORMATTER" "Ljava/util/function/BiFunction;" w_SIO := c162.wr W168
  have c172 : Sta Z h168 "java/lang/StringUTF16" "$assertionsDisabled" "Z" (.int (1 : Int32)) := c163.wr W168
  have c173 : Sta Z h168 "java/lang/StringUTF16" "HI_BYTE_SHIFT" "I" (.int (0 : Int32)) := c164.wr W168
  have c174 : Sta Z h168 "java/lang/StringUTF16" "LO_BYTE_SHIFT" "I" (.int (8 : Int32)) := c165.wr W168
  have c175 : IAr Z h168 b7 .byte (12 : Int32) (f0_v253 q1 p2 p4) := V168
  have c176 : IAr Z h168 b15 .char (12 : Int32) (f0_v219 p2) := c167.other W168 (Ne.symm ne_b7_b15)
  obtain ⟨T177, h177, X177, e177, W177, V177, st177⟩ := sB X168 hx hZ e168 c175 (j := ((f0_v6 p4) + (3 : Int32))) (own_ix p4 3 (by decide)) (g := (mkF m 266 #[.val (.long q1), .second, .val (.int p2), .val (.int p3), .val (.int p4), .val (.int p5), .val (.int p6), .val (.int (f0_v6 p4)), .val (.int (f0_v16 p5)), .val (.int (f0_s0_31 p6)), .val (.int (f0_s0_45 p6)), .val (.int (f0_v54 p6)), .val (.long (f0_s0_78 p5)), .second, .val (.int (p2.toInt8.toInt32)), .val (.int (p2.toUInt32.toUInt16.toUInt32.toInt32)), .val (.int (p3 &&& (65535 : Int32))), .val (.int ((f0_s0_113 p3).toUInt32.toUInt16.toUInt32.toInt32)), .val (.ref b7), .val (.ref b15), .unset, .unset, .unset, .unset, .unset] [(.int ((((q1.toUInt64 >>> ((24 : Int32) &&& 0x3f).toInt64.toUInt64).toInt64).toInt32).toInt8.toInt32)), (.int ((f0_v6 p4) + (3 : Int32))), (.ref b7)])) rfl rfl (hb hby at_266)
  have N177 := Fr.snoc X177 N168 g_b7
  have c178 : n0 ≤ h177.size := Nat.le_trans c169 (Keep.of_wr W177).1
  have c179 : Sta Z h177 "java/lang/String" "COMPACT_STRINGS" "Z" (.int w_CS) := c170.wr W177
  have c180 : Sta Z h177 "jdk/internal/util/Preconditions" "SIOOBE_FORMATTER" "Ljava/util/function/BiFunction;" w_SIO := c171.wr W177
  have c181 : Sta Z h177 "java/lang/StringUTF16" "$assertionsDisabled" "Z" (.int (1 : Int32)) := c172.wr W177
  have c182 : Sta Z h177 "java/lang/StringUTF16" "HI_BYTE_SHIFT" "I" (.int (0 : Int32)) := c173.wr W177
  have c183 : Sta Z h177 "java/lang/StringUTF16" "LO_BYTE_SHIFT" "I" (.int (8 : Int32)) := c174.wr W177
  have c184 : IAr Z h177 b7 .byte (12 : Int32) (f0_v266 q1 p2 p4) := V177
  have c185 : IAr Z h177 b15 .char (12 : Int32) (f0_v219 p2) := c176.other W177 (Ne.symm ne_b7_b15)
  obtain ⟨T186, h186, X186, e186, W186, V186, st186⟩ := sB X177 hx hZ e177 c184 (j := ((f0_v6 p4) + (4 : Int32))) (own_ix p4 4 (by decide)) (g := (mkF m 279 #[.val (.long q1), .second, .val (.int p2), .val (.int p3), .val (.int p4), .val (.int p5), .val (.int p6), .val (.int (f0_v6 p4)), .val (.int (f0_v16 p5)), .val (.int (f0_s0_31 p6)), .val (.int (f0_s0_45 p6)), .val (.int (f0_v54 p6)), .val (.long (f0_s0_78 p5)), .second, .val (.int (p2.toInt8.toInt32)), .val (.int (p2.toUInt32.toUInt16.toUInt32.toInt32)), .val (.int (p3 &&& (65535 : Int32))), .val (.int ((f0_s0_113 p3).toUInt32.toUInt16.toUInt32.toInt32)), .val (.ref b7), .val (.ref b15), .unset, .unset, .unset, .unset, .unset] [(.int ((((q1.toUInt64 >>> ((32 : Int32) &&& 0x3f).toInt64.toUInt64).toInt64).toInt32).toInt8.toInt32)), (.int ((f0_v6 p4) + (4 : Int32))), (.ref b7)])) rfl rfl (hb hby at_279)
  have N186 := Fr.snoc X186 N177 g_b7
  have c187 : n0 ≤ h186.size := Nat.le_trans c178 (Keep.of_wr W186).1
  have c188 : Sta Z h186 "java/lang/String" "COMPACT_STRINGS" "Z" (.int w_CS) := c179.wr W186
  have c189 : Sta Z h186 "jdk/internal/util/Preconditions" "SIOOBE_FORMATTER" "Ljava/util/function/BiFunction;" w_SIO := c180.wr W186
  have c190 : Sta Z h186 "java/lang/StringUTF16" "$assertionsDisabled" "Z" (.int (1 : Int32)) := c181.wr W186
  have c191 : Sta Z h186 "java/lang/StringUTF16" "HI_BYTE_SHIFT" "I" (.int (0 : Int32)) := c182.wr W186
  have c192 : Sta Z h186 "java/lang/StringUTF16" "LO_BYTE_SHIFT" "I" (.int (8 : Int32)) := c183.wr W186
  have c193 : IAr Z h186 b7 .byte (12 : Int32) (f0_v279 q1 p2 p4) := V186
  have c194 : IAr Z h186 b15 .char (12 : Int32) (f0_v219 p2) := c185.other W186 (Ne.symm ne_b7_b15)
  obtain ⟨T195, h195, X195, e195, W195, V195, st195⟩ := sB X186 hx hZ e186 c193 (j := ((f0_v6 p4) + (5 : Int32))) (own_ix p4 5 (by decide)) (g := (mkF m 292 #[.val (.long q1), .second, .val (.int p2), .val (.int p3), .val (.int p4), .val (.int p5), .val (.int p6), .val (.int (f0_v6 p4)), .val (.int (f0_v16 p5)), .val (.int (f0_s0_31 p6)), .val (.int (f0_s0_45 p6)), .val (.int (f0_v54 p6)), .val (.long (f0_s0_78 p5)), .second, .val (.int (p2.toInt8.toInt32)), .val (.int (p2.toUInt32.toUInt16.toUInt32.toInt32)), .val (.int (p3 &&& (65535 : Int32))), .val (.int ((f0_s0_113 p3).toUInt32.toUInt16.toUInt32.toInt32)), .val (.ref b7), .val (.ref b15), .unset, .unset, .unset, .unset, .unset] [(.int ((((q1.toUInt64 >>> ((40 : Int32) &&& 0x3f).toInt64.toUInt64).toInt64).toInt32).toInt8.toInt32)), (.int ((f0_v6 p4) + (5 : Int32))), (.ref b7)])) rfl rfl (hb hby at_292)
  have N195 := Fr.snoc X195 N186 g_b7
  have c196 : n0 ≤ h195.size := Nat.le_trans c187 (Keep.of_wr W195).1
  have c197 : Sta Z h195 "java/lang/String" "COMPACT_STRINGS" "Z" (.int w_CS) := c188.wr W195
  have c198 : Sta Z h195 "jdk/internal/util/Preconditions" "SIOOBE_FORMATTER" "Ljava/util/function/BiFunction;" w_SIO := c189.wr W195
  have c199 : Sta Z h195 "java/lang/StringUTF16" "$assertionsDisabled" "Z" (.int (1 : Int32)) := c190.wr W195
  have c200 : Sta Z h195 "java/lang/StringUTF16" "HI_BYTE_SHIFT" "I" (.int (0 : Int32)) := c191.wr W195
  have c201 : Sta Z h195 "java/lang/StringUTF16" "LO_BYTE_SHIFT" "I" (.int (8 : Int32)) := c192.wr W195
  have c202 : IAr Z h195 b7 .byte (12 : Int32) (f0_v292 q1 p2 p4) := V195
  have c203 : IAr Z h195 b15 .char (12 : Int32) (f0_v219 p2) := c194.other W195 (Ne.symm ne_b7_b15)
  obtain ⟨T204, h204, X204, e204, W204, V204, st204⟩ := sB X195 hx hZ e195 c202 (j := ((f0_v6 p4) + (6 : Int32))) (own_ix p4 6 (by decide)) (g := (mkF m 306 #[.val (.long q1), .second, .val (.int p2), .val (.int p3), .val (.int p4), .val (.int p5), .val (.int p6), .val (.int (f0_v6 p4)), .val (.int (f0_v16 p5)), .val (.int (f0_s0_31 p6)), .val (.int (f0_s0_45 p6)), .val (.int (f0_v54 p6)), .val (.long (f0_s0_78 p5)), .second, .val (.int (p2.toInt8.toInt32)), .val (.int (p2.toUInt32.toUInt16.toUInt32.toInt32)), .val (.int (p3 &&& (65535 : Int32))), .val (.int ((f0_s0_113 p3).toUInt32.toUInt16.toUInt32.toInt32)), .val (.ref b7), .val (.ref b15), .unset, .unset, .unset, .unset, .unset] [(.int ((((q1.toUInt64 >>> ((48 : Int32) &&& 0x3f).toInt64.toUInt64).toInt64).toInt32).toInt8.toInt32)), (.int ((f0_v6 p4) + (6 : Int32))), (.ref b7)])) rfl rfl (hb hby at_306)
  have N204 := Fr.snoc X204 N195 g_b7
  have c205 : n0 ≤ h204.size := Nat.le_trans c196 (Keep.of_wr W204).1
  have c206 : Sta Z h204 "java/lang/String" "COMPACT_STRINGS" "Z" (.int w_CS) := c197.wr W204
  have c207 : Sta Z h204 "jdk/internal/util/Preconditions" "SIOOBE_FORMATTER" "Ljava/util/function/BiFunction;" w_SIO := c198.wr W204
  have c208 : Sta Z h204 "java/lang/StringUTF16" "$assertionsDisabled" "Z" (.int (1 : Int32)) := c199.wr W204
  have c209 : Sta Z h204 "java/lang/StringUTF16" "HI_BYTE_SHIFT" "I" (.int (0 : Int32)) := c200.wr W204
  have c210 : Sta Z h204 "java/lang/StringUTF16" "LO_BYTE_SHIFT" "I" (.int (8 : Int32)) := c201.wr W204
  have c211 : IAr Z h204 b7 .byte (12 : Int32) (f0_v306 q1 p2 p4) := V204
  have c212 : IAr Z h204 b15 .char (12 : Int32) (f0_v219 p2) := c203.other W204 (Ne.symm ne_b7_b15)
  obtain ⟨T213, h213, X213, e213, W213, V213, st213⟩ := sB X204 hx hZ e204 c211 (j := ((f0_v6 p4) + (7 : Int32))) (own_ix p4 7 (by decide)) (g := (mkF m 320 #[.val (.long q1), .second, .val (.int p2), .val (.int p3), .val (.int p4), .val (.int p5), .val (.int p6), .val (.int (f0_v6 p4)), .val (.int (f0_v16 p5)), .val (.int (f0_s0_31 p6)), .val (.int (f0_s0_45 p6)), .val (.int (f0_v54 p6)), .val (.long (f0_s0_78 p5)), .second, .val (.int (p2.toInt8.toInt32)), .val (.int (p2.toUInt32.toUInt16.toUInt32.toInt32)), .val (.int (p3 &&& (65535 : Int32))), .val (.int ((f0_s0_113 p3).toUInt32.toUInt16.toUInt32.toInt32)), .val (.ref b7), .val (.ref b15), .unset, .unset, .unset, .unset, .unset] [(.int ((((q1.toUInt64 >>> ((56 : Int32) &&& 0x3f).toInt64.toUInt64).toInt64).toInt32).toInt8.toInt32)), (.int ((f0_v6 p4) + (7 : Int32))), (.ref b7)])) rfl rfl (hb hby at_320)
  have N213 := Fr.snoc X213 N204 g_b7
  have c214 : n0 ≤ h213.size := Nat.le_trans c205 (Keep.of_wr W213).1
  have c215 : Sta Z h213 "java/lang/String" "COMPACT_STRINGS" "Z" (.int w_CS) := c206.wr W213
  have c216 : Sta Z h213 "jdk/internal/util/Preconditions" "SIOOBE_FORMATTER" "Ljava/util/function/BiFunction;" w_SIO := c207.wr W213
  have c217 : Sta Z h213 "java/lang/StringUTF16" "$assertionsDisabled" "Z" (.int (1 : Int32)) := c208.wr W213
  have c218 : Sta Z h213 "java/lang/StringUTF16" "HI_BYTE_SHIFT" "I" (.int (0 : Int32)) := c209.wr W213
  have c219 : Sta Z h213 "java/lang/StringUTF16" "LO_BYTE_SHIFT" "I" (.int (8 : Int32)) := c210.wr W213
  have c220 : IAr Z h213 b7 .byte (12 : Int32) (f0_v320 q1 p2 p4) := V213
  have c221 : IAr Z h213 b15 .char (12 : Int32) (f0_v219 p2) := c212.other W213 (Ne.symm ne_b7_b15)
  obtain ⟨T222, h222, X222, e222, W222, V222, st222⟩ := sC X213 hx hZ e213 c221 (j := (f0_v6 p4)) (own_ix0 p4) (g := (mkF m 332 #[.val (.long q1), .second, .val (.int p2), .val (.int p3), .val (.int p4), .val (.int p5), .val (.int p6), .val (.int (f0_v6 p4)), .val (.int (f0_v16 p5)), .val (.int (f0_s0_31 p6)), .val (.int (f0_s0_45 p6)), .val (.int (f0_v54 p6)), .val (.long (f0_s0_78 p5)), .second, .val (.int (p2.toInt8.toInt32)), .val (.int (p2.toUInt32.toUInt16.toUInt32.toInt32)), .val (.int (p3 &&& (65535 : Int32))), .val (.int ((f0_s0_113 p3).toUInt32.toUInt16.toUInt32.toInt32)), .val (.ref b7), .val (.ref b15), .unset, .unset, .unset, .unset, .unset] [(.int (((q1 &&& (127 : Int64)).toInt32).toUInt32.toUInt16.toUInt32.toInt32)), (.int (f0_v6 p4)), (.ref b15)])) rfl rfl (hb hby at_332)
  have N222 := Fr.snoc X222 N213 g_b15
  have c223 : n0 ≤ h222.size := Nat.le_trans c214 (Keep.of_wr W222).1
  have c224 : Sta Z h222 "java/lang/String" "COMPACT_STRINGS" "Z" (.int w_CS) := c215.wr W222
  have c225 : Sta Z h222 "jdk/internal/util/Preconditions" "SIOOBE_FORMATTER" "Ljava/util/function/BiFunction;" w_SIO := c216.wr W222
  have c226 : Sta Z h222 "java/lang/StringUTF16" "$assertionsDisabled" "Z" (.int (1 : Int32)) := c217.wr W222
  have c227 : Sta Z h222 "java/lang/StringUTF16" "HI_BYTE_SHIFT" "I" (.int (0 : Int32)) := c218.wr W222
  have c228 : Sta Z h222 "java/lang/StringUTF16" "LO_BYTE_SHIFT" "I" (.int (8 : Int32)) := c219.wr W222
  have c229 : IAr Z h222 b7 .byte (12 : Int32) (f0_v320 q1 p2 p4) := c220.other W222 ne_b7_b15
  have c230 : IAr Z h222 b15 .char (12 : Int32) (f0_v332 q1 p2 p4) := V222
  obtain ⟨T231, h231, X231, e231, W231, V231, st231⟩ := sC X222 hx hZ e222 c230 (j := ((f0_v6 p4) + (1 : Int32))) (own_ix p4 1 (by decide)) (g := (mkF m 349 #[.val (.long q1), .second, .val (.int p2), .val (.int p3), .val (.int p4), .val (.int p5), .val (.int p6), .val (.int (f0_v6 p4)), .val (.int (f0_v16 p5)), .val (.int (f0_s0_31 p6)), .val (.int (f0_s0_45 p6)), .val (.int (f0_v54 p6)), .val (.long (f0_s0_78 p5)), .second, .val (.int (p2.toInt8.toInt32)), .val (.int (p2.toUInt32.toUInt16.toUInt32.toInt32)), .val (.int (p3 &&& (65535 : Int32))), .val (.int ((f0_s0_113 p3).toUInt32.toUInt16.toUInt32.toInt32)), .val (.ref b7), .val (.ref b15), .unset, .unset, .unset, .unset, .unset] [(.int (((((q1.toUInt64 >>> ((8 : Int32) &&& 0x3f).toInt64.toUInt64).toInt64) &&& (127 : Int64)).toInt32).toUInt32.toUInt16.toUInt32.toInt32)), (.int ((f0_v6 p4) + (1 : Int32))), (.ref b15)])) rfl rfl (hb hby at_349)
  have N231 := Fr.snoc X231 N222 g_b15
  have c232 : n0 ≤ h231.size := Nat.le_trans c223 (Keep.of_wr W231).1
  have c233 : Sta Z h231 "java/lang/String" "COMPACT_STRINGS" "Z" (.int w_CS) := c224.wr W231
  have c234 : Sta Z h231 "jdk/internal/util/Preconditions" "SIOOBE_FORMATTER" "Ljava/util/function/BiFunction;" w_SIO := c225.wr W231
  have c235 : Sta Z h231 "java/lang/StringUTF16" "$assertionsDisabled" "Z" (.int (1 : Int32)) := c226.wr W231
  have c236 : Sta Z h231 "java/lang/StringUTF16" "HI_BYTE_SHIFT" "I" (.int (0 : Int32)) := c227.wr W231
  have c237 : Sta Z h231 "java/lang/StringUTF16" "LO_BYTE_SHIFT" "I" (.int (8 : Int32)) := c228.wr W231
  have c238 : IAr Z h231 b7 .byte (12 : Int32) (f0_v320 q1 p2 p4) := c229.other W231 ne_b7_b15
  have c239 : IAr Z h231 b15 .char (12 : Int32) (f0_v349 q1 p2 p4) := V231
  obtain ⟨T240, h240, X240, e240, W240, V240, st240⟩ := sC X231 hx hZ e231 c239 (j := ((f0_v6 p4) + (2 : Int32))) (own_ix p4 2 (by decide)) (g := (mkF m 366 #[.val (.long q1), .second, .val (.int p2), .val (.int p3), .val (.int p4), .val (.int p5), .val (.int p6), .val (.int (f0_v6 p4)), .val (.int (f0_v16 p5)), .val (.int (f0_s0_31 p6)), .val (.int (f0_s0_45 p6)), .val (.int (f0_v54 p6)), .val (.long (f0_s0_78 p5)), .second, .val (.int (p2.toInt8.toInt32)), .val (.int (p2.toUInt32.toUInt16.toUInt32.toInt32)), .val (.int (p3 &&& (65535 : Int32))), .val (.int ((f0_s0_113 p3).toUInt32.toUInt16.toUInt32.toInt32)), .val (.ref b7), .val (.ref b15), .unset, .unset, .unset, .unset, .unset] [(.int (((((q1.toUInt64 >>> ((16 : Int32) &&& 0x3f).toInt64.toUInt64).toInt64) &&& (127 : Int64)).toInt32).toUInt32.toUInt16.toUInt32.toInt32)), (.int ((f0_v6 p4) + (2 : Int32))), (.ref b15)])) rfl rfl (hb hby at_366)
  have N240 := Fr.snoc X240 N231 g_b15
  have c241 : n0 ≤ h240.size := Nat.le_trans c232 (Keep.of_wr W240).1
  have c242 : Sta Z h240 "java/lang/String" "COMPACT_STRINGS" "Z" (.int w_CS) := c233.wr W240
  have c243 : Sta Z h240 "jdk/internal/util/Preconditions" "SIOOBE_FORMATTER" "Ljava/util/function/BiFunction;" w_SIO := c234.wr W240
  have c244 : Sta Z h240 "java/lang/StringUTF16" "$assertionsDisabled" "Z" (.int (1 : Int32)) := c235.wr W240
  have c245 : Sta Z h240 "java/lang/StringUTF16" "HI_BYTE_SHIFT" "I" (.int (0 : Int32)) := c236.wr W240
  have c246 : Sta Z h240 "java/lang/StringUTF16" "LO_BYTE_SHIFT" "I" (.int (8 : Int32)) := c237.wr W240
  have c247 : IAr Z h240 b7 .byte (12 : Int32) (f0_v320 q1 p2 p4) := c238.other W240 ne_b7_b15
  have c248 : IAr Z h240 b15 .char (12 : Int32) (f0_v366 q1 p2 p4) := V240
  obtain ⟨T249, h249, X249, e249, W249, V249, st249⟩ := sC X240 hx hZ e240 c248 (j := ((f0_v6 p4) + (3 : Int32))) (own_ix p4 3 (by decide)) (g := (mkF m 383 #[.val (.long q1), .second, .val (.int p2), .val (.int p3), .val (.int p4), .val (.int p5), .val (.int p6), .val (.int (f0_v6 p4)), .val (.int (f0_v16 p5)), .val (.int (f0_s0_31 p6)), .val (.int (f0_s0_45 p6)), .val (.int (f0_v54 p6)), .val (.long (f0_s0_78 p5)), .second, .val (.int (p2.toInt8.toInt32)), .val (.int (p2.toUInt32.toUInt16.toUInt32.toInt32)), .val (.int (p3 &&& (65535 : Int32))), .val (.int ((f0_s0_113 p3).toUInt32.toUInt16.toUInt32.toInt32)), .val (.ref b7), .val (.ref b15), .unset, .unset, .unset, .unset, .unset] [(.int (((((q1.toUInt64 >>> ((24 : Int32) &&& 0x3f).toInt64.toUInt64).toInt64) &&& (127 : Int64)).toInt32).toUInt32.toUInt16.toUInt32.toInt32)), (.int ((f0_v6 p4) + (3 : Int32))), (.ref b15)])) rfl rfl (hb hby at_383)
  have N249 := Fr.snoc X249 N240 g_b15
  have c250 : n0 ≤ h249.size := Nat.le_trans c241 (Keep.of_wr W249).1
  have c251 : Sta Z h249 "java/lang/String" "COMPACT_STRINGS" "Z" (.int w_CS) := c242.wr W249
  have c252 : Sta Z h249 "jdk/internal/util/Preconditions" "SIOOBE_FORMATTER" "Ljava/util/function/BiFunction;" w_SIO := c243.wr W249
  have c253 : Sta Z h249 "java/lang/StringUTF16" "$assertionsDisabled" "Z" (.int (1 : Int32)) := c244.wr W249
  have c254 : Sta Z h249 "java/lang/StringUTF16" "HI_BYTE_SHIFT" "I" (.int (0 : Int32)) := c245.wr W249
  have c255 : Sta Z h249 "java/lang/StringUTF16" "LO_BYTE_SHIFT" "I" (.int (8 : Int32)) := c246.wr W249
  have c256 : IAr Z h249 b7 .byte (12 : Int32) (f0_v320 q1 p2 p4) := c247.other W249 ne_b7_b15
  have c257 : IAr Z h249 b15 .char (12 : Int32) (f0_v383 q1 p2 p4) := V249
  obtain ⟨T258, h258, X258, e258, W258, V258, st258⟩ := sC X249 hx hZ e249 c257 (j := ((f0_v6 p4) + (4 : Int32))) (own_ix p4 4 (by decide)) (g := (mkF m 400 #[.val (.long q1), .second, .val (.int p2), .val (.int p3), .val (.int p4), .val (.int p5), .val (.int p6), .val (.int (f0_v6 p4)), .val (.int (f0_v16 p5)), .val (.int (f0_s0_31 p6)), .val (.int (f0_s0_45 p6)), .val (.int (f0_v54 p6)), .val (.long (f0_s0_78 p5)), .second, .val (.int (p2.toInt8.toInt32)), .val (.int (p2.toUInt32.toUInt16.toUInt32.toInt32)), .val (.int (p3 &&& (65535 : Int32))), .val (.int ((f0_s0_113 p3).toUInt32.toUInt16.toUInt32.toInt32)), .val (.ref b7), .val (.ref b15), .unset, .unset, .unset, .unset, .unset] [(.int (((((q1.toUInt64 >>> ((32 : Int32) &&& 0x3f).toInt64.toUInt64).toInt64) &&& (127 : Int64)).toInt32).toUInt32.toUInt16.toUInt32.toInt32)), (.int ((f0_v6 p4) + (4 : Int32))), (.ref b15)])) rfl rfl (hb hby at_400)
  have N258 := Fr.snoc X258 N249 g_b15
  have c259 : n0 ≤ h258.size := Nat.le_trans c250 (Keep.of_wr W258).1
  have c260 : Sta Z h258 "java/lang/String" "COMPACT_STRINGS" "Z" (.int w_CS) := c251.wr W258
  have c261 : Sta Z h258 "jdk/internal/util/Preconditions" "SIOOBE_FORMATTER" "Ljava/util/function/BiFunction;" w_SIO := c252.wr W258
  have c262 : Sta Z h258 "java/lang/StringUTF16" "$assertionsDisabled" "Z" (.int (1 : Int32)) := c253.wr W258
  have c263 : Sta Z h258 "java/lang/StringUTF16" "HI_BYTE_SHIFT" "I" (.int (0 : Int32)) := c254.wr W258
  have c264 : Sta Z h258 "java/lang/StringUTF16" "LO_BYTE_SHIFT" "I" (.int (8 : Int32)) := c255.wr W258
  have c265 : IAr Z h258 b7 .byte (12 : Int32) (f0_v320 q1 p2 p4) := c256.other W258 ne_b7_b15
  have c266 : IAr Z h258 b15 .char (12 : Int32) (f0_v400 q1 p2 p4) := V258
  obtain ⟨T267, h267, X267, e267, W267, V267, st267⟩ := sC X258 hx hZ e258 c266 (j := ((f0_v6 p4) + (5 : Int32))) (own_ix p4 5 (by decide)) (g := (mkF m 417 #[.val (.long q1), .second, .val (.int p2), .val (.int p3), .val (.int p4), .val (.int p5), .val (.int p6), .val (.int (f0_v6 p4)), .val (.int (f0_v16 p5)), .val (.int (f0_s0_31 p6)), .val (.int (f0_s0_45 p6)), .val (.int (f0_v54 p6)), .val (.long (f0_s0_78 p5)), .second, .val (.int (p2.toInt8.toInt32)), .val (.int (p2.toUInt32.toUInt16.toUInt32.toInt32)), .val (.int (p3 &&& (65535 : Int32))), .val (.int ((f0_s0_113 p3).toUInt32.toUInt16.toUInt32.toInt32)), .val (.ref b7), .val (.ref b15), .unset, .unset, .unset, .unset, .unset] [(.int (((((q1.toUInt64 >>> ((40 : Int32) &&& 0x3f).toInt64.toUInt64).toInt64) &&& (127 : Int64)).toInt32).toUInt32.toUInt16.toUInt32.toInt32)), (.int ((f0_v6 p4) + (5 : Int32))), (.ref b15)])) rfl rfl (hb hby at_417)
  have N267 := Fr.snoc X267 N258 g_b15
  have c268 : n0 ≤ h267.size := Nat.le_trans c259 (Keep.of_wr W267).1
  have c269 : Sta Z h267 "java/lang/String" "COMPACT_STRINGS" "Z" (.int w_CS) := c260.wr W267
  have c270 : Sta Z h267 "jdk/internal/util/Preconditions" "SIOOBE_FORMATTER" "Ljava/util/function/BiFunction;" w_SIO := c261.wr W267
  have c271 : Sta Z h267 "java/lang/StringUTF16" "$assertionsDisabled" "Z" (.int (1 : Int32)) := c262.wr W267
  have c272 : Sta Z h267 "java/lang/StringUTF16" "HI_BYTE_SHIFT" "I" (.int (0 : Int32)) := c263.wr W267
  have c273 : Sta Z h267 "java/lang/StringUTF16" "LO_BYTE_SHIFT" "I" (.int (8 : Int32)) := c264.wr W267
  have c274 : IAr Z h267 b7 .byte (12 : Int32) (f0_v320 q1 p2 p4) := c265.other W267 ne_b7_b15
  have c275 : IAr Z h267 b15 .char (12 : Int32) (f0_v417 q1 p2 p4) := V267
  obtain ⟨T276, h276, X276, e276, W276, V276, st276⟩ := sC X267 hx hZ e267 c275 (j := ((f0_v6 p4) + (6 : Int32))) (own_ix p4 6 (by decide)) (g := (mkF m 435 #[.val (.long q1), .second, .val (.int p2), .val (.int p3), .val (.int p4), .val (.int p5), .val (.int p6), .val (.int (f0_v6 p4)), .val (.int (f0_v16 p5)), .val (.int (f0_s0_31 p6)), .val (.int (f0_s0_45 p6)), .val (.int (f0_v54 p6)), .val (.long (f0_s0_78 p5)), .second, .val (.int (p2.toInt8.toInt32)), .val (.int (p2.toUInt32.toUInt16.toUInt32.toInt32)), .val (.int (p3 &&& (65535 : Int32))), .val (.int ((f0_s0_113 p3).toUInt32.toUInt16.toUInt32.toInt32)), .val (.ref b7), .val (.ref b15), .unset, .unset, .unset, .unset, .unset] [(.int (((((q1.toUInt64 >>> ((48 : Int32) &&& 0x3f).toInt64.toUInt64).toInt64) &&& (127 : Int64)).toInt32).toUInt32.toUInt16.toUInt32.toInt32)), (.int ((f0_v6 p4) + (6 : Int32))), (.ref b15)])) rfl rfl (hb hby at_435)
  have N276 := Fr.snoc X276 N267 g_b15
  have c277 : n0 ≤ h276.size := Nat.le_trans c268 (Keep.of_wr W276).1
  have c278 : Sta Z h276 "java/lang/String" "COMPACT_STRINGS" "Z" (.int w_CS) := c269.wr W276
  have c279 : Sta Z h276 "jdk/internal/util/Preconditions" "SIOOBE_FORMATTER" "Ljava/util/function/BiFunction;" w_SIO := c270.wr W276
  have c280 : Sta Z h276 "java/lang/StringUTF16" "$assertionsDisabled" "Z" (.int (1 : Int32)) := c271.wr W276
  have c281 : Sta Z h276 "java/lang/StringUTF16" "HI_BYTE_SHIFT" "I" (.int (0 : Int32)) := c272.wr W276
  have c282 : Sta Z h276 "java/lang/StringUTF16" "LO_BYTE_SHIFT" "I" (.int (8 : Int32)) := c273.wr W276
  have c283 : IAr Z h276 b7 .byte (12 : Int32) (f0_v320 q1 p2 p4) := c274.other W276 ne_b7_b15
  have c284 : IAr Z h276 b15 .char (12 : Int32) (f0_v435 q1 p2 p4) := V276
  obtain ⟨T285, h285, X285, e285, W285, V285, st285⟩ := sC X276 hx hZ e276 c284 (j := ((f0_v6 p4) + (7 : Int32))) (own_ix p4 7 (by decide)) (g := (mkF m 453 #[.val (.long q1), .second, .val (.int p2), .val (.int p3), .val (.int p4), .val (.int p5), .val (.int p6), .val (.int (f0_v6 p4)), .val (.int (f0_v16 p5)), .val (.int (f0_s0_31 p6)), .val (.int (f0_s0_45 p6)), .val (.int (f0_v54 p6)), .val (.long (f0_s0_78 p5)), .second, .val (.int (p2.toInt8.toInt32)), .val (.int (p2.toUInt32.toUInt16.toUInt32.toInt32)), .val (.int (p3 &&& (65535 : Int32))), .val (.int ((f0_s0_113 p3).toUInt32.toUInt16.toUInt32.toInt32)), .val (.ref b7), .val (.ref b15), .unset, .unset, .unset, .unset, .unset] [(.int (((((q1.toUInt64 >>> ((56 : Int32) &&& 0x3f).toInt64.toUInt64).toInt64) &&& (127 : Int64)).toInt32).toUInt32.toUInt16.toUInt32.toInt32)), (.int ((f0_v6 p4) + (7 : Int32))), (.ref b15)])) rfl rfl (hb hby at_453)
  have N285 := Fr.snoc X285 N276 g_b15
  have c286 : n0 ≤ h285.size := Nat.le_trans c277 (Keep.of_wr W285).1
  have c287 : Sta Z h285 "java/lang/String" "COMPACT_STRINGS" "Z" (.int w_CS) := c278.wr W285
  have c288 : Sta Z h285 "jdk/internal/util/Preconditions" "SIOOBE_FORMATTER" "Ljava/util/function/BiFunction;" w_SIO := c279.wr W285
  have c289 : Sta Z h285 "java/lang/StringUTF16" "$assertionsDisabled" "Z" (.int (1 : Int32)) := c280.wr W285
  have c290 : Sta Z h285 "java/lang/StringUTF16" "HI_BYTE_SHIFT" "I" (.int (0 : Int32)) := c281.wr W285
  have c291 : Sta Z h285 "java/lang/StringUTF16" "LO_BYTE_SHIFT" "I" (.int (8 : Int32)) := c282.wr W285
  have c292 : IAr Z h285 b7 .byte (12 : Int32) (f0_v320 q1 p2 p4) := c283.other W285 ne_b7_b15
  have c293 : IAr Z h285 b15 .char (12 : Int32) (f0_v453 q1 p2 p4) := V285
  have pre17 : ∀ t, Steps p.tables e below (T285.setTop (mkF m 456 #[.val (.long q1), .second, .val (.int p2), .val (.int p3), .val (.int p4), .val (.int p5), .val (.int p6), .val (.int (f0_v6 p4)), .val (.int (f0_v16 p5)), .val (.int (f0_s0_31 p6)), .val (.int (f0_s0_45 p6)), .val (.int (f0_v54 p6)), .val (.long (f0_s0_78 p5)), .second, .val (.int (p2.toInt8.toInt32)), .val (.int (p2.toUInt32.toUInt16.toUInt32.toInt32)), .val (.int (p3 &&& (65535 : Int32))), .val (.int ((f0_s0_113 p3).toUInt32.toUInt16.toUInt32.toInt32)), .val (.ref b7), .val (.ref b15), .unset, .unset, .unset, .unset, .unset] [(.int (f0_s0_45 p6))])) t → Steps p.tables e below (s₁.setTop (entryFrame m #[(.long q1), (.int p2), (.int p3), (.int p4), (.int p5), (.int p6)] maxLocals)) t := by
    intro t k
    refine pre14 t ?_
    show Steps p.tables e below (s₁.setTop (mkF m 113 #[.val (.long q1), .second, .val (.int p2), .val (.int p3), .val (.int p4), .val (.int p5), .val (.int p6), .val (.int (f0_v6 p4)), .val (.int (f0_v16 p5)), .val (.int (f0_s0_31 p6)), .val (.int (f0_s0_45 p6)), .val (.int (f0_v54 p6)), .val (.long (f0_s0_78 p5)), .second, .val (.int (p2.toInt8.toInt32)), .val (.int (p2.toUInt32.toUInt16.toUInt32.toInt32)), .val (.int (p3 &&& (65535 : Int32))), .unset, .unset, .unset, .unset, .unset, .unset, .unset, .unset] [(.int (f0_s0_113 p3))])) _
    refine XS.i2c X0.here hx rfl (hb hby at_113) rfl ?_
    show Steps p.tables e below (s₁.setTop (mkF m 114 #[.val (.long q1), .second, .val (.int p2), .val (.int p3), .val (.int p4), .val (.int p5), .val (.int p6), .val (.int (f0_v6 p4)), .val (.int (f0_v16 p5)), .val (.int (f0_s0_31 p6)), .val (.int (f0_s0_45 p6)), .val (.int (f0_v54 p6)), .val (.long (f0_s0_78 p5)), .second, .val (.int (p2.toInt8.toInt32)), .val (.int (p2.toUInt32.toUInt16.toUInt32.toInt32)), .val (.int (p3 &&& (65535 : Int32))), .unset, .unset, .unset, .unset, .unset, .unset, .unset, .unset] [(.int ((f0_s0_113 p3).toUInt32.toUInt16.toUInt32.toInt32))])) _
    refine XS.istore X0.here hx rfl (hb hby at_114) rfl (l' := #[.val (.long q1), .second, .val (.int p2), .val (.int p3), .val (.int p4), .val (.int p5), .val (.int p6), .val (.int (f0_v6 p4)), .val (.int (f0_v16 p5)), .val (.int (f0_s0_31 p6)), .val (.int (f0_s0_45 p6)), .val (.int (f0_v54 p6)), .val (.long (f0_s0_78 p5)), .second, .val (.int (p2.toInt8.toInt32)), .val (.int (p2.toUInt32.toUInt16.toUInt32.toInt32)), .val (.int (p3 &&& (65535 : Int32))), .val (.int ((f0_s0_113 p3).toUInt32.toUInt16.toUInt32.toInt32)), .unset, .unset, .unset, .unset, .unset, .unset, .unset]) rfl ?_
    show Steps p.tables e below (s₁.setTop (mkF m 116 #[.val (.long q1), .second, .val (.int p2), .val (.int p3), .val (.int p4), .val (.int p5), .val (.int p6), .val (.int (f0_v6 p4)), .val (.int (f0_v16 p5)), .val (.int (f0_s0_31 p6)), .val (.int (f0_s0_45 p6)), .val (.int (f0_v54 p6)), .val (.long (f0_s0_78 p5)), .second, .val (.int (p2.toInt8.toInt32)), .val (.int (p2.toUInt32.toUInt16.toUInt32.toInt32)), .val (.int (p3 &&& (65535 : Int32))), .val (.int ((f0_s0_113 p3).toUInt32.toUInt16.toUInt32.toInt32)), .unset, .unset, .unset, .unset, .unset, .unset, .unset] [])) _
    refine XS.bipush X0.here hx rfl (hb hby at_116) ?_
    show Steps p.tables e below (s₁.setTop (mkF m 118 #[.val (.long q1), .second, .val (.int p2), .val (.int p3), .val (.int p4), .val (.int p5), .val (.int p6), .val (.int (f0_v6 p4)), .val (.int (f0_v16 p5)), .val (.int (f0_s0_31 p6)), .val (.int (f0_s0_45 p6)), .val (.int (f0_v54 p6)), .val (.long (f0_s0_78 p5)), .second, .val (.int (p2.toInt8.toInt32)), .val (.int (p2.toUInt32.toUInt16.toUInt32.toInt32)), .val (.int (p3 &&& (65535 : Int32))), .val (.int ((f0_s0_113 p3).toUInt32.toUInt16.toUInt32.toInt32)), .unset, .unset, .unset, .unset, .unset, .unset, .unset] [(.int (12 : Int32))])) _
    refine st7 _ ?_
    show Steps p.tables e below (T7.setTop (mkF m 120 #[.val (.long q1), .second, .val (.int p2), .val (.int p3), .val (.int p4), .val (.int p5), .val (.int p6), .val (.int (f0_v6 p4)), .val (.int (f0_v16 p5)), .val (.int (f0_s0_31 p6)), .val (.int (f0_s0_45 p6)), .val (.int (f0_v54 p6)), .val (.long (f0_s0_78 p5)), .second, .val (.int (p2.toInt8.toInt32)), .val (.int (p2.toUInt32.toUInt16.toUInt32.toInt32)), .val (.int (p3 &&& (65535 : Int32))), .val (.int ((f0_s0_113 p3).toUInt32.toUInt16.toUInt32.toInt32)), .unset, .unset, .unset, .unset, .unset, .unset, .unset] [(.ref b7)])) _
    refine XS.astore X7.here hx rfl (hb hby at_120) rfl rfl (l' := #[.val (.long q1), .second, .val (.int p2), .val (.int p3), .val (.int p4), .val (.int p5), .val (.int p6), .val (.int (f0_v6 p4)), .val (.int (f0_v16 p5)), .val (.int (f0_s0_31 p6)), .val (.int (f0_s0_45 p6)), .val (.int (f0_v54 p6)), .val (.long (f0_s0_78 p5)), .second, .val (.int (p2.toInt8.toInt32)), .val (.int (p2.toUInt32.toUInt16.toUInt32.toInt32)), .val (.int (p3 &&& (65535 : Int32))), .val (.int ((f0_s0_113 p3).toUInt32.toUInt16.toUInt32.toInt32)), .val (.ref b7), .unset, .unset, .unset, .unset, .unset, .unset]) rfl ?_
    show Steps p.tables e below (T7.setTop (mkF m 122 #[.val (.long q1), .second, .val (.int p2), .val (.int p3), .val (.int p4), .val (.int p5), .val (.int p6), .val (.int (f0_v6 p4)), .val (.int (f0_v16 p5)), .val (.int (f0_s0_31 p6)), .val (.int (f0_s0_45 p6)), .val (.int (f0_v54 p6)), .val (.long (f0_s0_78 p5)), .second, .val (.int (p2.toInt8.toInt32)), .val (.int (p2.toUInt32.toUInt16.toUInt32.toInt32)), .val (.int (p3 &&& (65535 : Int32))), .val (.int ((f0_s0_113 p3).toUInt32.toUInt16.toUInt32.toInt32)), .val (.ref b7), .unset, .unset, .unset, .unset, .unset, .unset] [])) _
    refine XS.bipush X7.here hx rfl (hb hby at_122) ?_
    show Steps p.tables e below (T7.setTop (mkF m 124 #[.val (.long q1), .second, .val (.int p2), .val (.int p3), .val (.int p4), .val (.int p5), .val (.int p6), .val (.int (f0_v6 p4)), .val (.int (f0_v16 p5)), .val (.int (f0_s0_31 p6)), .val (.int (f0_s0_45 p6)), .val (.int (f0_v54 p6)), .val (.long (f0_s0_78 p5)), .second, .val (.int (p2.toInt8.toInt32)), .val (.int (p2.toUInt32.toUInt16.toUInt32.toInt32)), .val (.int (p3 &&& (65535 : Int32))), .val (.int ((f0_s0_113 p3).toUInt32.toUInt16.toUInt32.toInt32)), .val (.ref b7), .unset, .unset, .unset, .unset, .unset, .unset] [(.int (12 : Int32))])) _
    refine st15 _ ?_
    show Steps p.tables e below (T15.setTop (mkF m 126 #[.val (.long q1), .second, .val (.int p2), .val (.int p3), .val (.int p4), .val (.int p5), .val (.int p6), .val (.int (f0_v6 p4)), .val (.int (f0_v16 p5)), .val (.int (f0_s0_31 p6)), .val (.int (f0_s0_45 p6)), .val (.int (f0_v54 p6)), .val (.long (f0_s0_78 p5)), .second, .val (.int (p2.toInt8.toInt32)), .val (.int (p2.toUInt32.toUInt16.toUInt32.toInt32)), .val (.int (p3 &&& (65535 : Int32))), .val (.int ((f0_s0_113 p3).toUInt32.toUInt16.toUInt32.toInt32)), .val (.ref b7), .unset, .unset, .unset, .unset, .unset, .unset] [(.ref b15)])) _
    refine XS.astore X15.here hx rfl (hb hby at_126) rfl rfl (l' := #[.val (.long q1), .second, .val (.int p2), .val (.int p3), .val (.int p4), .val (.int p5), .val (.int p6), .val (.int (f0_v6 p4)), .val (.int (f0_v16 p5)), .val (.int (f0_s0_31 p6)), .val (.int (f0_s0_45 p6)), .val (.int (f0_v54 p6)), .val (.long (f0_s0_78 p5)), .second, .val (.int (p2.toInt8.toInt32)), .val (.int (p2.toUInt32.toUInt16.toUInt32.toInt32)), .val (.int (p3 &&& (65535 : Int32))), .val (.int ((f0_s0_113 p3).toUInt32.toUInt16.toUInt32.toInt32)), .val (.ref b7), .val (.ref b15), .unset, .unset, .unset, .unset, .unset]) rfl ?_
    show Steps p.tables e below (T15.setTop (mkF m 128 #[.val (.long q1), .second, .val (.int p2), .val (.int p3), .val (.int p4), .val (.int p5), .val (.int p6), .val (.int (f0_v6 p4)), .val (.int (f0_v16 p5)), .val (.int (f0_s0_31 p6)), .val (.int (f0_s0_45 p6)), .val (.int (f0_v54 p6)), .val (.long (f0_s0_78 p5)), .second, .val (.int (p2.toInt8.toInt32)), .val (.int (p2.toUInt32.toUInt16.toUInt32.toInt32)), .val (.int (p3 &&& (65535 : Int32))), .val (.int ((f0_s0_113 p3).toUInt32.toUInt16.toUInt32.toInt32)), .val (.ref b7), .val (.ref b15), .unset, .unset, .unset, .unset, .unset] [])) _
    refine XS.aload X15.here hx rfl (hb hby at_128) rfl rfl ?_
    show Steps p.tables e below (T15.setTop (mkF m 130 #[.val (.long q1), .second, .val (.int p2), .val (.int p3), .val (.int p4), .val (.int p5), .val (.int p6), .val (.int (f0_v6 p4)), .val (.int (f0_v16 p5)), .val (.int (f0_s0_31 p6)), .val (.int (f0_s0_45 p6)), .val (.int (f0_v54 p6)), .val (.long (f0_s0_78 p5)), .second, .val (.int (p2.toInt8.toInt32)), .val (.int (p2.toUInt32.toUInt16.toUInt32.toInt32)), .val (.int (p3 &&& (65535 : Int32))), .val (.int ((f0_s0_113 p3).toUInt32.toUInt16.toUInt32.toInt32)), .val (.ref b7), .val (.ref b15), .unset, .unset, .unset, .unset, .unset] [(.ref b7)])) _
    refine XS.iconst X15.here hx rfl (hb hby at_130) ?_
    show Steps p.tables e below (T15.setTop (mkF m 131 #[.val (.long q1), .second, .val (.int p2), .val (.int p3), .val (.int p4), .val (.int p5), .val (.int p6), .val (.int (f0_v6 p4)), .val (.int (f0_v16 p5)), .val (.int (f0_s0_31 p6)), .val (.int (f0_s0_45 p6)), .val (.int (f0_v54 p6)), .val (.long (f0_s0_78 p5)), .second, .val (.int (p2.toInt8.toInt32)), .val (.int (p2.toUInt32.toUInt16.toUInt32.toInt32)), .val (.int (p3 &&& (65535 : Int32))), .val (.int ((f0_s0_113 p3).toUInt32.toUInt16.toUInt32.toInt32)), .val (.ref b7), .val (.ref b15), .unset, .unset, .unset, .unset, .unset] [(.int (0 : Int32)), (.ref b7)])) _
    refine XS.iload X15.here hx rfl (hb hby at_131) rfl ?_
    show Steps p.tables e below (T15.setTop (mkF m 133 #[.val (.long q1), .second, .val (.int p2), .val (.int p3), .val (.int p4), .val (.int p5), .val (.int p6), .val (.int (f0_v6 p4)), .val (.int (f0_v16 p5)), .val (.int (f0_s0_31 p6)), .val (.int (f0_s0_45 p6)), .val (.int (f0_v54 p6)), .val (.long (f0_s0_78 p5)), .second, .val (.int (p2.toInt8.toInt32)), .val (.int (p2.toUInt32.toUInt16.toUInt32.toInt32)), .val (.int (p3 &&& (65535 : Int32))), .val (.int ((f0_s0_113 p3).toUInt32.toUInt16.toUInt32.toInt32)), .val (.ref b7), .val (.ref b15), .unset, .unset, .unset, .unset, .unset] [(.int (p2.toInt8.toInt32)), (.int (0 : Int32)), (.ref b7)])) _
    refine st24 _ ?_
    show Steps p.tables e below (T24.setTop (mkF m 134 #[.val (.long q1), .second, .val (.int p2), .val (.int p3), .val (.int p4), .val (.int p5), .val (.int p6), .val (.int (f0_v6 p4)), .val (.int (f0_v16 p5)), .val (.int (f0_s0_31 p6)), .val (.int (f0_s0_45 p6)), .val (.int (f0_v54 p6)), .val (.long (f0_s0_78 p5)), .second, .val (.int (p2.toInt8.toInt32)), .val (.int (p2.toUInt32.toUInt16.toUInt32.toInt32)), .val (.int (p3 &&& (65535 : Int32))), .val (.int ((f0_s0_113 p3).toUInt32.toUInt16.toUInt32.toInt32)), .val (.ref b7), .val (.ref b15), .unset, .unset, .unset, .unset, .unset] [])) _
    refine XS.aload X24.here hx rfl (hb hby at_134) rfl rfl ?_
    show Steps p.tables e below (T24.setTop (mkF m 136 #[.val (.long q1), .second, .val (.int p2), .val (.int p3), .val (.int p4), .val (.int p5), .val (.int p6), .val (.int (f0_v6 p4)), .val (.int (f0_v16 p5)), .val (.int (f0_s0_31 p6)), .val (.int (f0_s0_45 p6)), .val (.int (f0_v54 p6)), .val (.long (f0_s0_78 p5)), .second, .val (.int (p2.toInt8.toInt32)), .val (.int (p2.toUInt32.toUInt16.toUInt32.toInt32)), .val (.int (p3 &&& (65535 : Int32))), .val (.int ((f0_s0_113 p3).toUInt32.toUInt16.toUInt32.toInt32)), .val (.ref b7), .val (.ref b15), .unset, .unset, .unset, .unset, .unset] [(.ref b7)])) _
    refine XS.iconst X24.here hx rfl (hb hby at_136) ?_
    show Steps p.tables e below (T24.setTop (mkF m 137 #[.val (.long q1), .second, .val (.int p2), .val (.int p3), .val (.int p4), .val (.int p5), .val (.int p6), .val (.int (f0_v6 p4)), .val (.int (f0_v16 p5)), .val (.int (f0_s0_31 p6)), .val (.int (f0_s0_45 p6)), .val (.int (f0_v54 p6)), .val (.long (f0_s0_78 p5)), .second, .val (.int (p2.toInt8.toInt32)), .val (.int (p2.toUInt32.toUInt16.toUInt32.toInt32)), .val (.int (p3 &&& (65535 : Int32))), .val (.int ((f0_s0_113 p3).toUInt32.toUInt16.toUInt32.toInt32)), .val (.ref b7), .val (.ref b15), .unset, .unset, .unset, .unset, .unset] [(.int (1 : Int32)), (.ref b7)])) _
    refine XS.iload X24.here hx rfl (hb hby at_137) rfl ?_
    show Steps p.tables e below (T24.setTop (mkF m 139 #[.val (.long q1), .second, .val (.int p2), .val (.int p3), .val (.int p4), .val (.int p5), .val (.int p6), .val (.int (f0_v6 p4)), .val (.int (f0_v16 p5)), .val (.int (f0_s0_31 p6)), .val (.int (f0_s0_45 p6)), .val (.int (f0_v54 p6)), .val (.long (f0_s0_78 p5)), .second, .val (.int (p2.toInt8.toInt32)), .val (.int (p2.toUInt32.toUInt16.toUInt32.toInt32)), .val (.int (p3 &&& (65535 : Int32))), .val (.int ((f0_s0_113 p3).toUInt32.toUInt16.toUInt32.toInt32)), .val (.ref b7), .val (.ref b15), .unset, .unset, .unset, .unset, .unset] [(.int (p2.toInt8.toInt32)), (.int (1 : Int32)), (.ref b7)])) _
    refine st33 _ ?_
    show Steps p.tables e below (T33.setTop (mkF m 140 #[.val (.long q1), .second, .val (.int p2), .val (.int p3), .val (.int p4), .val (.int p5), .val (.int p6), .val (.int (f0_v6 p4)), .val (.int (f0_v16 p5)), .val (.int (f0_s0_31 p6)), .val (.int (f0_s0_45 p6)), .val (.int (f0_v54 p6)), .val (.long (f0_s0_78 p5)), .second, .val (.int (p2.toInt8.toInt32)), .val (.int (p2.toUInt32.toUInt16.toUInt32.toInt32)), .val (.int (p3 &&& (65535 : Int32))), .val (.int ((f0_s0_113 p3).toUInt32.toUInt16.toUInt32.toInt32)), .val (.ref b7), .val (.ref b15), .unset, .unset, .unset, .unset, .unset] [])) _
    refine XS.aload X33.here hx rfl (hb hby at_140) rfl rfl ?_
    show Steps p.tables e below (T33.setTop (mkF m 142 #[.val (.long q1), .second, .val (.int p2), .val (.int p3), .val (.int p4), .val (.int p5), .val (.int p6), .val (.int (f0_v6 p4)), .val (.int (f0_v16 p5)), .val (.int (f0_s0_31 p6)), .val (.int (f0_s0_45 p6)), .val (.int (f0_v54 p6)), .val (.long (f0_s0_78 p5)), .second, .val (.int (p2.toInt8.toInt32)), .val (.int (p2.toUInt32.toUInt16.toUInt32.toInt32)), .val (.int (p3 &&& (65535 : Int32))), .val (.int ((f0_s0_113 p3).toUInt32.toUInt16.toUInt32.toInt32)), .val (.ref b7), .val (.ref b15), .unset, .unset, .unset, .unset, .unset] [(.ref b7)])) _
    refine XS.iconst X33.here hx rfl (hb hby at_142) ?_
    show Steps p.tables e below (T33.setTop (mkF m 143 #[.val (.long q1), .second, .val (.int p2), .val (.int p3), .val (.int p4), .val (.int p5), .val (.int p6), .val (.int (f0_v6 p4)), .val (.int (f0_v16 p5)), .val (.int (f0_s0_31 p6)), .val (.int (f0_s0_45 p6)), .val (.int (f0_v54 p6)), .val (.long (f0_s0_78 p5)), .second, .val (.int (p2.toInt8.toInt32)), .val (.int (p2.toUInt32.toUInt16.toUInt32.toInt32)), .val (.int (p3 &&& (65535 : Int32))), .val (.int ((f0_s0_113 p3).toUInt32.toUInt16.toUInt32.toInt32)), .val (.ref b7), .val (.ref b15), .unset, .unset, .unset, .unset, .unset] [(.int (2 : Int32)), (.ref b7)])) _
    refine XS.iload X33.here hx rfl (hb hby at_143) rfl ?_
    show Steps p.tables e below (T33.setTop (mkF m 145 #[.val (.long q1), .second, .val (.int p2), .val (.int p3), .val (.int p4), .val (.int p5), .val (.int p6), .val (.int (f0_v6 p4)), .val (.int (f0_v16 p5)), .val (.int (f0_s0_31 p6)), .val (.int (f0_s0_45 p6)), .val (.int (f0_v54 p6)), .val (.long (f0_s0_78 p5)), .second, .val (.int (p2.toInt8.toInt32)), .val (.int (p2.toUInt32.toUInt16.toUInt32.toInt32)), .val (.int (p3 &&& (65535 : Int32))), .val (.int ((f0_s0_113 p3).toUInt32.toUInt16.toUInt32.toInt32)), .val (.ref b7), .val (.ref b15), .unset, .unset, .unset, .unset, .unset] [(.int (p2.toInt8.toInt32)), (.int (2 : Int32)), (.ref b7)])) _
    refine st42 _ ?_
    show Steps p.tables e below (T42.setTop (mkF m 146 #[.val (.long q1), .second, .val (.int p2), .val (.int p3), .val (.int p4), .val (.int p5), .val (.int p6), .val (.int (f0_v6 p4)), .val (.int (f0_v16 p5)), .val (.int (f0_s0_31 p6)), .val (.int (f0_s0_45 p6)), .val (.int (f0_v54 p6)), .val (.long (f0_s0_78 p5)), .second, .val (.int (p2.toInt8.toInt32)), .val (.int (p2.toUInt32.toUInt16.toUInt32.toInt32)), .val (.int (p3 &&& (65535 : Int32))), .val (.int ((f0_s0_113 p3).toUInt32.toUInt16.toUInt32.toInt32)), .val (.ref b7), .val (.ref b15), .unset, .unset, .unset, .unset, .unset] [])) _
    refine XS.aload X42.here hx rfl (hb hby at_146) rfl rfl ?_
    show Steps p.tables e below (T42.setTop (mkF m 148 #[.val (.long q1), .second, .val (.int p2), .val (.int p3), .val (.int p4), .val (.int p5), .val (.int p6), .val (.int (f0_v6 p4)), .val (.int (f0_v16 p5)), .val (.int (f0_s0_31 p6)), .val (.int (f0_s0_45 p6)), .val (.int (f0_v54 p6)), .val (.long (f0_s0_78 p5)), .second, .val (.int (p2.toInt8.toInt32)), .val (.int (p2.toUInt32.toUInt16.toUInt32.toInt32)), .val (.int (p3 &&& (65535 : Int32))), .val (.int ((f0_s0_113 p3).toUInt32.toUInt16.toUInt32.toInt32)), .val (.ref b7), .val (.ref b15), .unset, .unset, .unset, .unset, .unset] [(.ref b7)])) _
    refine XS.bipush X42.here hx rfl (hb hby at_148) ?_
    show Steps p.tables e below (T42.setTop (mkF m 150 #[.val (.long q1), .second, .val (.int p2), .val (.int p3), .val (.int p4), .val (.int p5), .val (.int p6), .val (.int (f0_v6 p4)), .val (.int (f0_v16 p5)), .val (.int (f0_s0_31 p6)), .val (.int (f0_s0_45 p6)), .val (.int (f0_v54 p6)), .val (.long (f0_s0_78 p5)), .second, .val (.int (p2.toInt8.toInt32)), .val (.int (p2.toUInt32.toUInt16.toUInt32.toInt32)), .val (.int (p3 &&& (65535 : Int32))), .val (.int ((f0_s0_113 p3).toUInt32.toUInt16.toUInt32.toInt32)), .val (.ref b7), .val (.ref b15), .unset, .unset, .unset, .unset, .unset] [(.int (8 : Int32)), (.ref b7)])) _
    refine XS.iload X42.here hx rfl (hb hby at_150) rfl ?_
    show Steps p.tables e below (T42.setTop (mkF m 152 #[.val (.long q1), .second, .val (.int p2), .val (.int p3), .val (.int p4), .val (.int p5), .val (.int p6), .val (.int (f0_v6 p4)), .val (.int (f0_v16 p5)), .val (.int (f0_s0_31 p6)), .val (.int (f0_s0_45 p6)), .val (.int (f0_v54 p6)), .val (.long (f0_s0_78 p5)), .second, .val (.int (p2.toInt8.toInt32)), .val (.int (p2.toUInt32.toUInt16.toUInt32.toInt32)), .val (.int (p3 &&& (65535 : Int32))), .val (.int ((f0_s0_113 p3).toUInt32.toUInt16.toUInt32.toInt32)), .val (.ref b7), .val (.ref b15), .unset, .unset, .unset, .unset, .unset] [(.int (p2.toInt8.toInt32)), (.int (8 : Int32)), (.ref b7)])) _
    refine st51 _ ?_
    show Steps p.tables e below (T51.setTop (mkF m 153 #[.val (.long q1), .second, .val (.int p2), .val (.int p3), .val (.int p4), .val (.int p5), .val (.int p6), .val (.int (f0_v6 p4)), .val (.int (f0_v16 p5)), .val (.int (f0_s0_31 p6)), .val (.int (f0_s0_45 p6)), .val (.int (f0_v54 p6)), .val (.long (f0_s0_78 p5)), .second, .val (.int (p2.toInt8.toInt32)), .val (.int (p2.toUInt32.toUInt16.toUInt32.toInt32)), .val (.int (p3 &&& (65535 : Int32))), .val (.int ((f0_s0_113 p3).toUInt32.toUInt16.toUInt32.toInt32)), .val (.ref b7), .val (.ref b15), .unset, .unset, .unset, .unset, .unset] [])) _
    refine XS.aload X51.here hx rfl (hb hby at_153) rfl rfl ?_
    show Steps p.tables e below (T51.setTop (mkF m 155 #[.val (.long q1), .second, .val (.int p2), .val (.int p3), .val (.int p4), .val (.int p5), .val (.int p6), .val (.int (f0_v6 p4)), .val (.int (f0_v16 p5)), .val (.int (f0_s0_31 p6)), .val (.int (f0_s0_45 p6)), .val (.int (f0_v54 p6)), .val (.long (f0_s0_78 p5)), .second, .val (.int (p2.toInt8.toInt32)), .val (.int (p2.toUInt32.toUInt16.toUInt32.toInt32)), .val (.int (p3 &&& (65535 : Int32))), .val (.int ((f0_s0_113 p3).toUInt32.toUInt16.toUInt32.toInt32)), .val (.ref b7), .val (.ref b15), .unset, .unset, .unset, .unset, .unset] [(.ref b7)])) _
    refine XS.bipush X51.here hx rfl (hb hby at_155) ?_
    show Steps p.tables e below (T51.setTop (mkF m 157 #[.val (.long q1), .second, .val (.int p2), .val (.int p3), .val (.int p4), .val (.int p5), .val (.int p6), .val (.int (f0_v6 p4)), .val (.int (f0_v16 p5)), .val (.int (f0_s0_31 p6)), .val (.int (f0_s0_45 p6)), .val (.int (f0_v54 p6)), .val (.long (f0_s0_78 p5)), .second, .val (.int (p2.toInt8.toInt32)), .val (.int (p2.toUInt32.toUInt16.toUInt32.toInt32)), .val (.int (p3 &&& (65535 : Int32))), .val (.int ((f0_s0_113 p3).toUInt32.toUInt16.toUInt32.toInt32)), .val (.ref b7), .val (.ref b15), .unset, .unset, .unset, .unset, .unset] [(.int (9 : Int32)), (.ref b7)])) _
    refine XS.iload X51.here hx rfl (hb hby at_157) rfl ?_
    show Steps p.tables e below (T51.setTop (mkF m 159 #[.val (.long q1), .second, .val (.int p2), .val (.int p3), .val (.int p4), .val (.int p5), .val (.int p6), .val (.int (f0_v6 p4)), .val (.int (f0_v16 p5)), .val (.int (f0_s0_31 p6)), .val (.int (f0_s0_45 p6)), .val (.int (f0_v54 p6)), .val (.long (f0_s0_78 p5)), .second, .val (.int (p2.toInt8.toInt32)), .val (.int (p2.toUInt32.toUInt16.toUInt32.toInt32)), .val (.int (p3 &&& (65535 : Int32))), .val (.int ((f0_s0_113 p3).toUInt32.toUInt16.toUInt32.toInt32)), .val (.ref b7), .val (.ref b15), .unset, .unset, .unset, .unset, .unset] [(.int (p2.toInt8.toInt32)), (.int (9 : Int32)), (.ref b7)])) _
    refine st60 _ ?_
    show Steps p.tables e below (T60.setTop (mkF m 160 #[.val (.long q1), .second, .val (.int p2), .val (.int p3), .val (.int p4), .val (.int p5), .val (.int p6), .val (.int (f0_v6 p4)), .val (.int (f0_v16 p5)), .val (.int (f0_s0_31 p6)), .val (.int (f0_s0_45 p6)), .val (.int (f0_v54 p6)), .val (.long (f0_s0_78 p5)), .second, .val (.int (p2.toInt8.toInt32)), .val (.int (p2.toUInt32.toUInt16.toUInt32.toInt32)), .val (.int (p3 &&& (65535 : Int32))), .val (.int ((f0_s0_113 p3).toUInt32.toUInt16.toUInt32.toInt32)), .val (.ref b7), .val (.ref b15), .unset, .unset, .unset, .unset, .unset] [])) _
    refine XS.aload X60.here hx rfl (hb hby at_160) rfl rfl ?_
    show Steps p.tables e below (T60.setTop (mkF m 162 #[.val (.long q1), .second, .val (.int p2), .val (.int p3), .val (.int p4), .val (.int p5), .val (.int p6), .val (.int (f0_v6 p4)), .val (.int (f0_v16 p5)), .val (.int (f0_s0_31 p6)), .val (.int (f0_s0_45 p6)), .val (.int (f0_v54 p6)), .val (.long (f0_s0_78 p5)), .second, .val (.int (p2.toInt8.toInt32)), .val (.int (p2.toUInt32.toUInt16.toUInt32.toInt32)), .val (.int (p3 &&& (65535 : Int32))), .val (.int ((f0_s0_113 p3).toUInt32.toUInt16.toUInt32.toInt32)), .val (.ref b7), .val (.ref b15), .unset, .unset, .unset, .unset, .unset] [(.ref b7)])) _
    refine XS.bipush X60.here hx rfl (hb hby at_162) ?_
    show Steps p.tables e below (T60.setTop (mkF m 164 #[.val (.long q1), .second, .val (.int p2), .val (.int p3), .val (.int p4), .val (.int p5), .val (.int p6), .val (.int (f0_v6 p4)), .val (.int (f0_v16 p5)), .val (.int (f0_s0_31 p6)), .val (.int (f0_s0_45 p6)), .val (.int (f0_v54 p6)), .val (.long (f0_s0_78 p5)), .second, .val (.int (p2.toInt8.toInt32)), .val (.int (p2.toUInt32.toUInt16.toUInt32.toInt32)), .val (.int (p3 &&& (65535 : Int32))), .val (.int ((f0_s0_113 p3).toUInt32.toUInt16.toUInt32.toInt32)), .val (.ref b7), .val (.ref b15), .unset, .unset, .unset, .unset, .unset] [(.int (10 : Int32)), (.ref b7)])) _
    refine XS.iload X60.here hx rfl (hb hby at_164) rfl ?_
    show Steps p.tables e below (T60.setTop (mkF m 166 #[.val (.long q1), .second, .val (.int p2), .val (.int p3), .val (.int p4), .val (.int p5), .val (.int p6), .val (.int (f0_v6 p4)), .val (.int (f0_v16 p5)), .val (.int (f0_s0_31 p6)), .val (.int (f0_s0_45 p6)), .val (.int (f0_v54 p6)), .val (.long (f0_s0_78 p5)), .second, .val (.int (p2.toInt8.toInt32)), .val (.int (p2.toUInt32.toUInt16.toUInt32.toInt32)), .val (.int (p3 &&& (65535 : Int32))), .val (.int ((f0_s0_113 p3).toUInt32.toUInt16.toUInt32.toInt32)), .val (.ref b7), .val (.ref b15), .unset, .unset, .unset, .unset, .unset] [(.int (p2.toInt8.toInt32)), (.int (10 : Int32)), (.ref b7)])) _
    refine st69 _ ?_
    show Steps p.tables e below (T69.setTop (mkF m 167 #[.val (.long q1), .second, .val (.int p2), .val (.int p3), .val (.int p4), .val (.int p5), .val (.int p6), .val (.int (f0_v6 p4)), .val (.int (f0_v16 p5)), .val (.int (f0_s0_31 p6)), .val (.int (f0_s0_45 p6)), .val (.int (f0_v54 p6)), .val (.long (f0_s0_78 p5)), .second, .val (.int (p2.toInt8.toInt32)), .val (.int (p2.toUInt32.toUInt16.toUInt32.toInt32)), .val (.int (p3 &&& (65535 : Int32))), .val (.int ((f0_s0_113 p3).toUInt32.toUInt16.toUInt32.toInt32)), .val (.ref b7), .val (.ref b15), .unset, .unset, .unset, .unset, .unset] [])) _
    refine XS.aload X69.here hx rfl (hb hby at_167) rfl rfl ?_
    show Steps p.tables e below (T69.setTop (mkF m 169 #[.val (.long q1), .second, .val (.int p2), .val (.int p3), .val (.int p4), .val (.int p5), .val (.int p6), .val (.int (f0_v6 p4)), .val (.int (f0_v16 p5)), .val (.int (f0_s0_31 p6)), .val (.int (f0_s0_45 p6)), .val (.int (f0_v54 p6)), .val (.long (f0_s0_78 p5)), .second, .val (.int (p2.toInt8.toInt32)), .val (.int (p2.toUInt32.toUInt16.toUInt32.toInt32)), .val (.int (p3 &&& (65535 : Int32))), .val (.int ((f0_s0_113 p3).toUInt32.toUInt16.toUInt32.toInt32)), .val (.ref b7), .val (.ref b15), .unset, .unset, .unset, .unset, .unset] [(.ref b7)])) _
    refine XS.bipush X69.here hx rfl (hb hby at_169) ?_
    show Steps p.tables e below (T69.setTop (mkF m 171 #[.val (.long q1), .second, .val (.int p2), .val (.int p3), .val (.int p4), .val (.int p5), .val (.int p6), .val (.int (f0_v6 p4)), .val (.int (f0_v16 p5)), .val (.int (f0_s0_31 p6)), .val (.int (f0_s0_45 p6)), .val (.int (f0_v54 p6)), .val (.long (f0_s0_78 p5)), .second, .val (.int (p2.toInt8.toInt32)), .val (.int (p2.toUInt32.toUInt16.toUInt32.toInt32)), .val (.int (p3 &&& (65535 : Int32))), .val (.int ((f0_s0_113 p3).toUInt32.toUInt16.toUInt32.toInt32)), .val (.ref b7), .val (.ref b15), .unset, .unset, .unset, .unset, .unset] [(.int (11 : Int32)), (.ref b7)])) _
    refine XS.iload X69.here hx rfl (hb hby at_171) rfl ?_
    show Steps p.tables e below (T69.setTop (mkF m 173 #[.val (.long q1), .second, .val (.int p2), .val (.int p3), .val (.int p4), .val (.int p5), .val (.int p6), .val (.int (f0_v6 p4)), .val (.int (f0_v16 p5)), .val (.int (f0_s0_31 p6)), .val (.int (f0_s0_45 p6)), .val (.int (f0_v54 p6)), .val (.long (f0_s0_78 p5)), .second, .val (.int (p2.toInt8.toInt32)), .val (.int (p2.toUInt32.toUInt16.toUInt32.toInt32)), .val (.int (p3 &&& (65535 : Int32))), .val (.int ((f0_s0_113 p3).toUInt32.toUInt16.toUInt32.toInt32)), .val (.ref b7), .val (.ref b15), .unset, .unset, .unset, .unset, .unset] [(.int (p2.toInt8.toInt32)), (.int (11 : Int32)), (.ref b7)])) _
    refine st78 _ ?_
    show Steps p.tables e below (T78.setTop (mkF m 174 #[.val (.long q1), .second, .val (.int p2), .val (.int p3), .val (.int p4), .val (.int p5), .val (.int p6), .val (.int (f0_v6 p4)), .val (.int (f0_v16 p5)), .val (.int (f0_s0_31 p6)), .val (.int (f0_s0_45 p6)), .val (.int (f0_v54 p6)), .val (.long (f0_s0_78 p5)), .second, .val (.int (p2.toInt8.toInt32)), .val (.int (p2.toUInt32.toUInt16.toUInt32.toInt32)), .val (.int (p3 &&& (65535 : Int32))), .val (.int ((f0_s0_113 p3).toUInt32.toUInt16.toUInt32.toInt32)), .val (.ref b7), .val (.ref b15), .unset, .unset, .unset, .unset, .unset] [])) _
    refine XS.aload X78.here hx rfl (hb hby at_174) rfl rfl ?_
    show Steps p.tables e below (T78.setTop (mkF m 176 #[.val (.long q1), .second, .val (.int p2), .val (.int p3), .val (.int p4), .val (.int p5), .val (.int p6), .val (.int (f0_v6 p4)), .val (.int (f0_v16 p5)), .val (.int (f0_s0_31 p6)), .val (.int (f0_s0_45 p6)), .val (.int (f0_v54 p6)), .val (.long (f0_s0_78 p5)), .second, .val (.int (p2.toInt8.toInt32)), .val (.int (p2.toUInt32.toUInt16.toUInt32.toInt32)), .val (.int (p3 &&& (65535 : Int32))), .val (.int ((f0_s0_113 p3).toUInt32.toUInt16.toUInt32.toInt32)), .val (.ref b7), .val (.ref b15), .unset, .unset, .unset, .unset, .unset] [(.ref b15)])) _
    refine XS.iconst X78.here hx rfl (hb hby at_176) ?_
    show Steps p.tables e below (T78.setTop (mkF m 177 #[.val (.long q1), .second, .val (.int p2), .val (.int p3), .val (.int p4), .val (.int p5), .val (.int p6), .val (.int (f0_v6 p4)), .val (.int (f0_v16 p5)), .val (.int (f0_s0_31 p6)), .val (.int (f0_s0_45 p6)), .val (.int (f0_v54 p6)), .val (.long (f0_s0_78 p5)), .second, .val (.int (p2.toInt8.toInt32)), .val (.int (p2.toUInt32.toUInt16.toUInt32.toInt32)), .val (.int (p3 &&& (65535 : Int32))), .val (.int ((f0_s0_113 p3).toUInt32.toUInt16.toUInt32.toInt32)), .val (.ref b7), .val (.ref b15), .unset, .unset, .unset, .unset, .unset] [(.int (0 : Int32)), (.ref b15)])) _
    refine XS.iload X78.here hx rfl (hb hby at_177) rfl ?_
    show Steps p.tables e below (T78.setTop (mkF m 179 #[.val (.long q1), .second, .val (.int p2), .val (.int p3), .val (.int p4), .val (.int p5), .val (.int p6), .val (.int (f0_v6 p4)), .val (.int (f0_v16 p5)), .val (.int (f0_s0_31 p6)), .val (.int (f0_s0_45 p6)), .val (.int (f0_v54 p6)), .val (.long (f0_s0_78 p5)), .second, .val (.int (p2.toInt8.toInt32)), .val (.int (p2.toUInt32.toUInt16.toUInt32.toInt32)), .val (.int (p3 &&& (65535 : Int32))), .val (.int ((f0_s0_113 p3).toUInt32.toUInt16.toUInt32.toInt32)), .val (.ref b7), .val (.ref b15), .unset, .unset, .unset, .unset, .unset] [(.int (p2.toUInt32.toUInt16.toUInt32.toInt32)), (.int (0 : Int32)), (.ref b15)])) _
    refine st87 _ ?_
    show Steps p.tables e below (T87.setTop (mkF m 180 #[.val (.long q1), .second, .val (.int p2), .val (.int p3), .val (.int p4), .val (.int p5), .val (.int p6), .val (.int (f0_v6 p4)), .val (.int (f0_v16 p5)), .val (.int (f0_s0_31 p6)), .val (.int (f0_s0_45 p6)), .val (.int (f0_v54 p6)), .val (.long (f0_s0_78 p5)), .second, .val (.int (p2.toInt8.toInt32)), .val (.int (p2.toUInt32.toUInt16.toUInt32.toInt32)), .val (.int (p3 &&& (65535 : Int32))), .val (.int ((f0_s0_113 p3).toUInt32.toUInt16.toUInt32.toInt32)), .val (.ref b7), .val (.ref b15), .unset, .unset, .unset, .unset, .unset] [])) _
    refine XS.aload X87.here hx rfl (hb hby at_180) rfl rfl ?_
    show Steps p.tables e below (T87.setTop (mkF m 182 #[.val (.long q1), .second, .val (.int p2), .val (.int p3), .val (.int p4), .val (.int p5), .val (.int p6), .val (.int (f0_v6 p4)), .val (.int (f0_v16 p5)), .val (.int (f0_s0_31 p6)), .val (.int (f0_s0_45 p6)), .val (.int (f0_v54 p6)), .val (.long (f0_s0_78 p5)), .second, .val (.int (p2.toInt8.toInt32)), .val (.int (p2.toUInt32.toUInt16.toUInt32.toInt32)), .val (.int (p3 &&& (65535 : Int32))), .val (.int ((f0_s0_113 p3).toUInt32.toUInt16.toUInt32.toInt32)), .val (.ref b7), .val (.ref b15), .unset, .unset, .unset, .unset, .unset] [(.ref b15)])) _
    refine XS.iconst X87.here hx rfl (hb hby at_182) ?_
    show Steps p.tables e below (T87.setTop (mkF m 183 #[.val (.long q1), .second, .val (.int p2), .val (.int p3), .val (.int p4), .val (.int p5), .val (.int p6), .val (.int (f0_v6 p4)), .val (.int (f0_v16 p5)), .val (.int (f0_s0_31 p6)), .val (.int (f0_s0_45 p6)), .val (.int (f0_v54 p6)), .val (.long (f0_s0_78 p5)), .second, .val (.int (p2.toInt8.toInt32)), .val (.int (p2.toUInt32.toUInt16.toUInt32.toInt32)), .val (.int (p3 &&& (65535 : Int32))), .val (.int ((f0_s0_113 p3).toUInt32.toUInt16.toUInt32.toInt32)), .val (.ref b7), .val (.ref b15), .unset, .unset, .unset, .unset, .unset] [(.int (1 : Int32)), (.ref b15)])) _
    refine XS.iload X87.here hx rfl (hb hby at_183) rfl ?_
    show Steps p.tables e below (T87.setTop (mkF m 185 #[.val (.long q1), .second, .val (.int p2), .val (.int p3), .val (.int p4), .val (.int p5), .val (.int p6), .val (.int (f0_v6 p4)), .val (.int (f0_v16 p5)), .val (.int (f0_s0_31 p6)), .val (.int (f0_s0_45 p6)), .val (.int (f0_v54 p6)), .val (.long (f0_s0_78 p5)), .second, .val (.int (p2.toInt8.toInt32)), .val (.int (p2.toUInt32.toUInt16.toUInt32.toInt32)), .val (.int (p3 &&& (65535 : Int32))), .val (.int ((f0_s0_113 p3).toUInt32.toUInt16.toUInt32.toInt32)), .val (.ref b7), .val (.ref b15), .unset, .unset, .unset, .unset, .unset] [(.int (p2.toUInt32.toUInt16.toUInt32.toInt32)), (.int (1 : Int32)), (.ref b15)])) _
    refine st96 _ ?_
    show Steps p.tables e below (T96.setTop (mkF m 186 #[.val (.long q1), .second, .val (.int p2), .val (.int p3), .val (.int p4), .val (.int p5), .val (.int p6), .val (.int (f0_v6 p4)), .val (.int (f0_v16 p5)), .val (.int (f0_s0_31 p6)), .val (.int (f0_s0_45 p6)), .val (.int (f0_v54 p6)), .val (.long (f0_s0_78 p5)), .second, .val (.int (p2.toInt8.toInt32)), .val (.int (p2.toUInt32.toUInt16.toUInt32.toInt32)), .val (.int (p3 &&& (65535 : Int32))), .val (.int ((f0_s0_113 p3).toUInt32.toUInt16.toUInt32.toInt32)), .val (.ref b7), .val (.ref b15), .unset, .unset, .unset, .unset, .unset] [])) _
    refine XS.aload X96.here hx rfl (hb hby at_186) rfl rfl ?_
    show Steps p.tables e below (T96.setTop (mkF m 188 #[.val (.long q1), .second, .val (.int p2), .val (.int p3), .val (.int p4), .val (.int p5), .val (.int p6), .val (.int (f0_v6 p4)), .val (.int (f0_v16 p5)), .val (.int (f0_s0_31 p6)), .val (.int (f0_s0_45 p6)), .val (.int (f0_v54 p6)), .val (.long (f0_s0_78 p5)), .second, .val (.int (p2.toInt8.toInt32)), .val (.int (p2.toUInt32.toUInt16.toUInt32.toInt32)), .val (.int (p3 &&& (65535 : Int32))), .val (.int ((f0_s0_113 p3).toUInt32.toUInt16.toUInt32.toInt32)), .val (.ref b7), .val (.ref b15), .unset, .unset, .unset, .unset, .unset] [(.ref b15)])) _
    refine XS.iconst X96.here hx rfl (hb hby at_188) ?_
    show Steps p.tables e below (T96.setTop (mkF m 189 #[.val (.long q1), .second, .val (.int p2), .val (.int p3), .val (.int p4), .val (.int p5), .val (.int p6), .val (.int (f0_v6 p4)), .val (.int (f0_v16 p5)), .val (.int (f0_s0_31 p6)), .val (.int (f0_s0_45 p6)), .val (.int (f0_v54 p6)), .val (.long (f0_s0_78 p5)), .second, .val (.int (p2.toInt8.toInt32)), .val (.int (p2.toUInt32.toUInt16.toUInt32.toInt32)), .val (.int (p3 &&& (65535 : Int32))), .val (.int ((f0_s0_113 p3).toUInt32.toUInt16.toUInt32.toInt32)), .val (.ref b7), .val (.ref b15), .unset, .unset, .unset, .unset, .unset] [(.int (2 : Int32)), (.ref b15)])) _
    refine XS.iload X96.here hx rfl (hb hby at_189) rfl ?_
    show Steps p.tables e below (T96.setTop (mkF m 191 #[.val (.long q1), .second, .val (.int p2), .val (.int p3), .val (.int p4), .val (.int p5), .val (.int p6), .val (.int (f0_v6 p4)), .val (.int (f0_v16 p5)), .val (.int (f0_s0_31 p6)), .val (.int (f0_s0_45 p6)), .val (.int (f0_v54 p6)), .val (.long (f0_s0_78 p5)), .second, .val (.int (p2.toInt8.toInt32)), .val (.int (p2.toUInt32.toUInt16.toUInt32.toInt32)), .val (.int (p3 &&& (65535 : Int32))), .val (.int ((f0_s0_113 p3).toUInt32.toUInt16.toUInt32.toInt32)), .val (.ref b7), .val (.ref b15), .unset, .unset, .unset, .unset, .unset] [(.int (p2.toUInt32.toUInt16.toUInt32.toInt32)), (.int (2 : Int32)), (.ref b15)])) _
    refine st105 _ ?_
    show Steps p.tables e below (T105.setTop (mkF m 192 #[.val (.long q1), .second, .val (.int p2), .val (.int p3), .val (.int p4), .val (.int p5), .val (.int p6), .val (.int (f0_v6 p4)), .val (.int (f0_v16 p5)), .val (.int (f0_s0_31 p6)), .val (.int (f0_s0_45 p6)), .val (.int (f0_v54 p6)), .val (.long (f0_s0_78 p5)), .second, .val (.int (p2.toInt8.toInt32)), .val (.int (p2.toUInt32.toUInt16.toUInt32.toInt32)), .val (.int (p3 &&& (65535 : Int32))), .val (.int ((f0_s0_113 p3).toUInt32.toUInt16.toUInt32.toInt32)), .val (.ref b7), .val (.ref b15), .unset, .unset, .unset, .unset, .unset] [])) _
    refine XS.aload X105.here hx rfl (hb hby at_192) rfl rfl ?_
    show Steps p.tables e below (T105.setTop (mkF m 194 #[.val (.long q1), .second, .val (.int p2), .val (.int p3), .val (.int p4), .val (.int p5), .val (.int p6), .val (.int (f0_v6 p4)), .val (.int (f0_v16 p5)), .val (.int (f0_s0_31 p6)), .val (.int (f0_s0_45 p6)), .val (.int (f0_v54 p6)), .val (.long (f0_s0_78 p5)), .second, .val (.int (p2.toInt8.toInt32)), .val (.int (p2.toUInt32.toUInt16.toUInt32.toInt32)), .val (.int (p3 &&& (65535 : Int32))), .val (.int ((f0_s0_113 p3).toUInt32.toUInt16.toUInt32.toInt32)), .val (.ref b7), .val (.ref b15), .unset, .unset, .unset, .unset, .unset] [(.ref b15)])) _
    refine XS.bipush X105.here hx rfl (hb hby at_194) ?_
    show Steps p.tables e below (T105.setTop (mkF m 196 #[.val (.long q1), .second, .val (.int p2), .val (.int p3), .val (.int p4), .val (.int p5), .val (.int p6), .val (.int (f0_v6 p4)), .val (.int (f0_v16 p5)), .val (.int (f0_s0_31 p6)), .val (.int (f0_s0_45 p6)), .val (.int (f0_v54 p6)), .val (.long (f0_s0_78 p5)), .second, .val (.int (p2.toInt8.toInt32)), .val (.int (p2.toUInt32.toUInt16.toUInt32.toInt32)), .val (.int (p3 &&& (65535 : Int32))), .val (.int ((f0_s0_113 p3).toUInt32.toUInt16.toUInt32.toInt32)), .val (.ref b7), .val (.ref b15), .unset, .unset, .unset, .unset, .unset] [(.int (8 : Int32)), (.ref b15)])) _
    refine XS.iload X105.here hx rfl (hb hby at_196) rfl ?_
    show Steps p.tables e below (T105.setTop (mkF m 198 #[.val (.long q1), .second, .val (.int p2), .val (.int p3), .val (.int p4), .val (.int p5), .val (.int p6), .val (.int (f0_v6 p4)), .val (.int (f0_v16 p5)), .val (.int (f0_s0_31 p6)), .val (.int (f0_s0_45 p6)), .val (.int (f0_v54 p6)), .val (.long (f0_s0_78 p5)), .second, .val (.int (p2.toInt8.toInt32)), .val (.int (p2.toUInt32.toUInt16.toUInt32.toInt32)), .val (.int (p3 &&& (65535 : Int32))), .val (.int ((f0_s0_113 p3).toUInt32.toUInt16.toUInt32.toInt32)), .val (.ref b7), .val (.ref b15), .unset, .unset, .unset, .unset, .unset] [(.int (p2.toUInt32.toUInt16.toUInt32.toInt32)), (.int (8 : Int32)), (.ref b15)])) _
    refine st114 _ ?_
    show Steps p.tables e below (T114.setTop (mkF m 199 #[.val (.long q1), .second, .val (.int p2), .val (.int p3), .val (.int p4), .val (.int p5), .val (.int p6), .val (.int (f0_v6 p4)), .val (.int (f0_v16 p5)), .val (.int (f0_s0_31 p6)), .val (.int (f0_s0_45 p6)), .val (.int (f0_v54 p6)), .val (.long (f0_s0_78 p5)), .second, .val (.int (p2.toInt8.toInt32)), .val (.int (p2.toUInt32.toUInt16.toUInt32.toInt32)), .val (.int (p3 &&& (65535 : Int32))), .val (.int ((f0_s0_113 p3).toUInt32.toUInt16.toUInt32.toInt32)), .val (.ref b7), .val (.ref b15), .unset, .unset, .unset, .unset, .unset] [])) _
    refine XS.aload X114.here hx rfl (hb hby at_199) rfl rfl ?_
    show Steps p.tables e below (T114.setTop (mkF m 201 #[.val (.long q1), .second, .val (.int p2), .val (.int p3), .val (.int p4), .val (.int p5), .val (.int p6), .val (.int (f0_v6 p4)), .val (.int (f0_v16 p5)), .val (.int (f0_s0_31 p6)), .val (.int (f0_s0_45 p6)), .val (.int (f0_v54 p6)), .val (.long (f0_s0_78 p5)), .second, .val (.int (p2.toInt8.toInt32)), .val (.int (p2.toUInt32.toUInt16.toUInt32.toInt32)), .val (.int (p3 &&& (65535 : Int32))), .val (.int ((f0_s0_113 p3).toUInt32.toUInt16.toUInt32.toInt32)), .val (.ref b7), .val (.ref b15), .unset, .unset, .unset, .unset, .unset] [(.ref b15)])) _
    refine XS.bipush X114.here hx rfl (hb hby at_201) ?_
    show Steps p.tables e below (T114.setTop (mkF m 203 #[.val (.long q1), .second, .val (.int p2), .val (.int p3), .val (.int p4), .val (.int p5), .val (.int p6), .val (.int (f0_v6 p4)), .val (.int (f0_v16 p5)), .val (.int (f0_s0_31 p6)), .val (.int (f0_s0_45 p6)), .val (.int (f0_v54 p6)), .val (.long (f0_s0_78 p5)), .second, .val (.int (p2.toInt8.toInt32)), .val (.int (p2.toUInt32.toUInt16.toUInt32.toInt32)), .val (.int (p3 &&& (65535 : Int32))), .val (.int ((f0_s0_113 p3).toUInt32.toUInt16.toUInt32.toInt32)), .val (.ref b7), .val (.ref b15), .unset, .unset, .unset, .unset, .unset] [(.int (9 : Int32)), (.ref b15)])) _
    refine XS.iload X114.here hx rfl (hb hby at_203) rfl ?_
    show Steps p.tables e below (T114.setTop (mkF m 205 #[.val (.long q1), .second, .val (.int p2), .val (.int p3), .val (.int p4), .val (.int p5), .val (.int p6), .val (.int (f0_v6 p4)), .val (.int (f0_v16 p5)), .val (.int (f0_s0_31 p6)), .val (.int (f0_s0_45 p6)), .val (.int (f0_v54 p6)), .val (.long (f0_s0_78 p5)), .second, .val (.int (p2.toInt8.toInt32)), .val (.int (p2.toUInt32.toUInt16.toUInt32.toInt32)), .val (.int (p3 &&& (65535 : Int32))), .val (.int ((f0_s0_113 p3).toUInt32.toUInt16.toUInt32.toInt32)), .val (.ref b7), .val (.ref b15), .unset, .unset, .unset, .unset, .unset] [(.int (p2.toUInt32.toUInt16.toUInt32.toInt32)), (.int (9 : Int32)), (.ref b15)])) _
    refine st123 _ ?_
    show Steps p.tables e below (T123.setTop (mkF m 206 #[.val (.long q1), .second, .val (.int p2), .val (.int p3), .val (.int p4), .val (.int p5), .val (.int p6), .val (.int (f0_v6 p4)), .val (.int (f0_v16 p5)), .val (.int (f0_s0_31 p6)), .val (.int (f0_s0_45 p6)), .val (.int (f0_v54 p6)), .val (.long (f0_s0_78 p5)), .second, .val (.int (p2.toInt8.toInt32)), .val (.int (p2.toUInt32.toUInt16.toUInt32.toInt32)), .val (.int (p3 &&& (65535 : Int32))), .val (.int ((f0_s0_113 p3).toUInt32.toUInt16.toUInt32.toInt32)), .val (.ref b7), .val (.ref b15), .unset, .unset, .unset, .unset, .unset] [])) _
    refine XS.aload X123.here hx rfl (hb hby at_206) rfl rfl ?_
    show Steps p.tables e below (T123.setTop (mkF m 208 #[.val (.long q1), .second, .val (.int p2), .val (.int p3), .val (.int p4), .val (.int p5), .val (.int p6), .val (.int (f0_v6 p4)), .val (.int (f0_v16 p5)), .val (.int (f0_s0_31 p6)), .val (.int (f0_s0_45 p6)), .val (.int (f0_v54 p6)), .val (.long (f0_s0_78 p5)), .second, .val (.int (p2.toInt8.toInt32)), .val (.int (p2.toUInt32.toUInt16.toUInt32.toInt32)), .val (.int (p3 &&& (65535 : Int32))), .val (.int ((f0_s0_113 p3).toUInt32.toUInt16.toUInt32.toInt32)), .val (.ref b7), .val (.ref b15), .unset, .unset, .unset, .unset, .unset] [(.ref b15)])) _
    refine XS.bipush X123.here hx rfl (hb hby at_208) ?_
    show Steps p.tables e below (T123.setTop (mkF m 210 #[.val (.long q1), .second, .val (.int p2), .val (.int p3), .val (.int p4), .val (.int p5), .val (.int p6), .val (.int (f0_v6 p4)), .val (.int (f0_v16 p5)), .val (.int (f0_s0_31 p6)), .val (.int (f0_s0_45 p6)), .val (.int (f0_v54 p6)), .val (.long (f0_s0_78 p5)), .second, .val (.int (p2.toInt8.toInt32)), .val (.int (p2.toUInt32.toUInt16.toUInt32.toInt32)), .val (.int (p3 &&& (65535 : Int32))), .val (.int ((f0_s0_113 p3).toUInt32.toUInt16.toUInt32.toInt32)), .val (.ref b7), .val (.ref b15), .unset, .unset, .unset, .unset, .unset] [(.int (10 : Int32)), (.ref b15)])) _
    refine XS.iload X123.here hx rfl (hb hby at_210) rfl ?_
    show Steps p.tables e below (T123.setTop (mkF m 212 #[.val (.long q1), .second, .val (.int p2), .val (.int p3), .val (.int p4), .val (.int p5), .val (.int p6), .val (.int (f0_v6 p4)), .val (.int (f0_v16 p5)), .val (.int (f0_s0_31 p6)), .val (.int (f0_s0_45 p6)), .val (.int (f0_v54 p6)), .val (.long (f0_s0_78 p5)), .second, .val (.int (p2.toInt8.toInt32)), .val (.int (p2.toUInt32.toUInt16.toUInt32.toInt32)), .val (.int (p3 &&& (65535 : Int32))), .val (.int ((f0_s0_113 p3).toUInt32.toUInt16.toUInt32.toInt32)), .val (.ref b7), .val (.ref b15), .unset, .unset, .unset, .unset, .unset] [(.int (p2.toUInt32.toUInt16.toUInt32.toInt32)), (.int (10 : Int32)), (.ref b15)])) _
    refine st132 _ ?_
    show Steps p.tables e below (T132.setTop (mkF m 213 #[.val (.long q1), .second, .val (.int p2), .val (.int p3), .val (.int p4), .val (.int p5), .val (.int p6), .val (.int (f0_v6 p4)), .val (.int (f0_v16 p5)), .val (.int (f0_s0_31 p6)), .val (.int (f0_s0_45 p6)), .val (.int (f0_v54 p6)), .val (.long (f0_s0_78 p5)), .second, .val (.int (p2.toInt8.toInt32)), .val (.int (p2.toUInt32.toUInt16.toUInt32.toInt32)), .val (.int (p3 &&& (65535 : Int32))), .val (.int ((f0_s0_113 p3).toUInt32.toUInt16.toUInt32.toInt32)), .val (.ref b7), .val (.ref b15), .unset, .unset, .unset, .unset, .unset] [])) _
    refine XS.aload X132.here hx rfl (hb hby at_213) rfl rfl ?_
    show Steps p.tables e below (T132.setTop (mkF m 215 #[.val (.long q1), .second, .val (.int p2), .val (.int p3), .val (.int p4), .val (.int p5), .val (.int p6), .val (.int (f0_v6 p4)), .val (.int (f0_v16 p5)), .val (.int (f0_s0_31 p6)), .val (.int (f0_s0_45 p6)), .val (.int (f0_v54 p6)), .val (.long (f0_s0_78 p5)), .second, .val (.int (p2.toInt8.toInt32)), .val (.int (p2.toUInt32.toUInt16.toUInt32.toInt32)), .val (.int (p3 &&& (65535 : Int32))), .val (.int ((f0_s0_113 p3).toUInt32.toUInt16.toUInt32.toInt32)), .val (.ref b7), .val (.ref b15), .unset, .unset, .unset, .unset, .unset] [(.ref b15)])) _
    refine XS.bipush X132.here hx rfl (hb hby at_215) ?_
    show Steps p.tables e below (T132.setTop (mkF m 217 #[.val (.long q1), .second, .val (.int p2), .val (.int p3), .val (.int p4), .val (.int p5), .val (.int p6), .val (.int (f0_v6 p4)), .val (.int (f0_v16 p5)), .val (.int (f0_s0_31 p6)), .val (.int (f0_s0_45 p6)), .val (.int (f0_v54 p6)), .val (.long (f0_s0_78 p5)), .second, .val (.int (p2.toInt8.toInt32)), .val (.int (p2.toUInt32.toUInt16.toUInt32.toInt32)), .val (.int (p3 &&& (65535 : Int32))), .val (.int ((f0_s0_113 p3).toUInt32.toUInt16.toUInt32.toInt32)), .val (.ref b7), .val (.ref b15), .unset, .unset, .unset, .unset, .unset] [(.int (11 : Int32)), (.ref b15)])) _
    refine XS.iload X132.here hx rfl (hb hby at_217) rfl ?_
    show Steps p.tables e below (T132.setTop (mkF m 219 #[.val (.long q1), .second, .val (.int p2), .val (.int p3), .val (.int p4), .val (.int p5), .val (.int p6), .val (.int (f0_v6 p4)), .val (.int (f0_v16 p5)), .val (.int (f0_s0_31 p6)), .val (.int (f0_s0_45 p6)), .val (.int (f0_v54 p6)), .val (.long (f0_s0_78 p5)), .second, .val (.int (p2.toInt8.toInt32)), .val (.int (p2.toUInt32.toUInt16.toUInt32.toInt32)), .val (.int (p3 &&& (65535 : Int32))), .val (.int ((f0_s0_113 p3).toUInt32.toUInt16.toUInt32.toInt32)), .val (.ref b7), .val (.ref b15), .unset, .unset, .unset, .unset, .unset] [(.int (p2.toUInt32.toUInt16.toUInt32.toInt32)), (.int (11 : Int32)), (.ref b15)])) _
    refine st141 _ ?_
    show Steps p.tables e below (T141.setTop (mkF m 220 #[.val (.long q1), .second, .val (.int p2), .val (.int p3), .val (.int p4), .val (.int p5), .val (.int p6), .val (.int (f0_v6 p4)), .val (.int (f0_v16 p5)), .val (.int (f0_s0_31 p6)), .val (.int (f0_s0_45 p6)), .val (.int (f0_v54 p6)), .val (.long (f0_s0_78 p5)), .second, .val (.int (p2.toInt8.toInt32)), .val (.int (p2.toUInt32.toUInt16.toUInt32.toInt32)), .val (.int (p3 &&& (65535 : Int32))), .val (.int ((f0_s0_113 p3).toUInt32.toUInt16.toUInt32.toInt32)), .val (.ref b7), .val (.ref b15), .unset, .unset, .unset, .unset, .unset] [])) _
    refine XS.aload X141.here hx rfl (hb hby at_220) rfl rfl ?_
    show Steps p.tables e below (T141.setTop (mkF m 222 #[.val (.long q1), .second, .val (.int p2), .val (.int p3), .val (.int p4), .val (.int p5), .val (.int p6), .val (.int (f0_v6 p4)), .val (.int (f0_v16 p5)), .val (.int (f0_s0_31 p6)), .val (.int (f0_s0_45 p6)), .val (.int (f0_v54 p6)), .val (.long (f0_s0_78 p5)), .second, .val (.int (p2.toInt8.toInt32)), .val (.int (p2.toUInt32.toUInt16.toUInt32.toInt32)), .val (.int (p3 &&& (65535 : Int32))), .val (.int ((f0_s0_113 p3).toUInt32.toUInt16.toUInt32.toInt32)), .val (.ref b7), .val (.ref b15), .unset, .unset, .unset, .unset, .unset] [(.ref b7)])) _
    refine XS.iload X141.here hx rfl (hb hby at_222) rfl ?_
    show Steps p.tables e below (T141.setTop (mkF m 224 #[.val (.long q1), .second, .val (.int p2), .val (.int p3), .val (.int p4), .val (.int p5), .val (.int p6), .val (.int (f0_v6 p4)), .val (.int (f0_v16 p5)), .val (.int (f0_s0_31 p6)), .val (.int (f0_s0_45 p6)), .val (.int (f0_v54 p6)), .val (.long (f0_s0_78 p5)), .second, .val (.int (p2.toInt8.toInt32)), .val (.int (p2.toUInt32.toUInt16.toUInt32.toInt32)), .val (.int (p3 &&& (65535 : Int32))), .val (.int ((f0_s0_113 p3).toUInt32.toUInt16.toUInt32.toInt32)), .val (.ref b7), .val (.ref b15), .unset, .unset, .unset, .unset, .unset] [(.int (f0_v6 p4)), (.ref b7)])) _
    refine XS.lloadN X141.here hx rfl (hb hby at_224) rfl ?_
    show Steps p.tables e below (T141.setTop (mkF m 225 #[.val (.long q1), .second, .val (.int p2), .val (.int p3), .val (.int p4), .val (.int p5), .val (.int p6), .val (.int (f0_v6 p4)), .val (.int (f0_v16 p5)), .val (.int (f0_s0_31 p6)), .val (.int (f0_s0_45 p6)), .val (.int (f0_v54 p6)), .val (.long (f0_s0_78 p5)), .second, .val (.int (p2.toInt8.toInt32)), .val (.int (p2.toUInt32.toUInt16.toUInt32.toInt32)), .val (.int (p3 &&& (65535 : Int32))), .val (.int ((f0_s0_113 p3).toUInt32.toUInt16.toUInt32.toInt32)), .val (.ref b7), .val (.ref b15), .unset, .unset, .unset, .unset, .unset] [(.long q1), (.int (f0_v6 p4)), (.ref b7)])) _
    refine XS.l2i X141.here hx rfl (hb hby at_225) rfl ?_
    show Steps p.tables e below (T141.setTop (mkF m 226 #[.val (.long q1), .second, .val (.int p2), .val (.int p3), .val (.int p4), .val (.int p5), .val (.int p6), .val (.int (f0_v6 p4)), .val (.int (f0_v16 p5)), .val (.int (f0_s0_31 p6)), .val (.int (f0_s0_45 p6)), .val (.int (f0_v54 p6)), .val (.long (f0_s0_78 p5)), .second, .val (.int (p2.toInt8.toInt32)), .val (.int (p2.toUInt32.toUInt16.toUInt32.toInt32)), .val (.int (p3 &&& (65535 : Int32))), .val (.int ((f0_s0_113 p3).toUInt32.toUInt16.toUInt32.toInt32)), .val (.ref b7), .val (.ref b15), .unset, .unset, .unset, .unset, .unset] [(.int (q1.toInt32)), (.int (f0_v6 p4)), (.ref b7)])) _
    refine XS.i2b X141.here hx rfl (hb hby at_226) rfl ?_
    show Steps p.tables e below (T141.setTop (mkF m 227 #[.val (.long q1), .second, .val (.int p2), .val (.int p3), .val (.int p4), .val (.int p5), .val (.int p6), .val (.int (f0_v6 p4)), .val (.int (f0_v16 p5)), .val (.int (f0_s0_31 p6)), .val (.int (f0_s0_45 p6)), .val (.int (f0_v54 p6)), .val (.long (f0_s0_78 p5)), .second, .val (.int (p2.toInt8.toInt32)), .val (.int (p2.toUInt32.toUInt16.toUInt32.toInt32)), .val (.int (p3 &&& (65535 : Int32))), .val (.int ((f0_s0_113 p3).toUInt32.toUInt16.toUInt32.toInt32)), .val (.ref b7), .val (.ref b15), .unset, .unset, .unset, .unset, .unset] [(.int ((q1.toInt32).toInt8.toInt32)), (.int (f0_v6 p4)), (.ref b7)])) _
    refine st150 _ ?_
    show Steps p.tables e below (T150.setTop (mkF m 228 #[.val (.long q1), .second, .val (.int p2), .val (.int p3), .val (.int p4), .val (.int p5), .val (.int p6), .val (.int (f0_v6 p4)), .val (.int (f0_v16 p5)), .val (.int (f0_s0_31 p6)), .val (.int (f0_s0_45 p6)), .val (.int (f0_v54 p6)), .val (.long (f0_s0_78 p5)), .second, .val (.int (p2.toInt8.toInt32)), .val (.int (p2.toUInt32.toUInt16.toUInt32.toInt32)), .val (.int (p3 &&& (65535 : Int32))), .val (.int ((f0_s0_113 p3).toUInt32.toUInt16.toUInt32.toInt32)), .val (.ref b7), .val (.ref b15), .unset, .unset, .unset, .unset, .unset] [])) _
    refine XS.aload X150.here hx rfl (hb hby at_228) rfl rfl ?_
    show Steps p.tables e below (T150.setTop (mkF m 230 #[.val (.long q1), .second, .val (.int p2), .val (.int p3), .val (.int p4), .val (.int p5), .val (.int p6), .val (.int (f0_v6 p4)), .val (.int (f0_v16 p5)), .val (.int (f0_s0_31 p6)), .val (.int (f0_s0_45 p6)), .val (.int (f0_v54 p6)), .val (.long (f0_s0_78 p5)), .second, .val (.int (p2.toInt8.toInt32)), .val (.int (p2.toUInt32.toUInt16.toUInt32.toInt32)), .val (.int (p3 &&& (65535 : Int32))), .val (.int ((f0_s0_113 p3).toUInt32.toUInt16.toUInt32.toInt32)), .val (.ref b7), .val (.ref b15), .unset, .unset, .unset, .unset, .unset] [(.ref b7)])) _
    refine XS.iload X150.here hx rfl (hb hby at_230) rfl ?_
    show Steps p.tables e below (T150.setTop (mkF m 232 #[.val (.long q1), .second, .val (.int p2), .val (.int p3), .val (.int p4), .val (.int p5), .val (.int p6), .val (.int (f0_v6 p4)), .val (.int (f0_v16 p5)), .val (.int (f0_s0_31 p6)), .val (.int (f0_s0_45 p6)), .val (.int (f0_v54 p6)), .val (.long (f0_s0_78 p5)), .second, .val (.int (p2.toInt8.toInt32)), .val (.int (p2.toUInt32.toUInt16.toUInt32.toInt32)), .val (.int (p3 &&& (65535 : Int32))), .val (.int ((f0_s0_113 p3).toUInt32.toUInt16.toUInt32.toInt32)), .val (.ref b7), .val (.ref b15), .unset, .unset, .unset, .unset, .unset] [(.int (f0_v6 p4)), (.ref b7)])) _
    refine XS.iconst X150.here hx rfl (hb hby at_232) ?_
    show Steps p.tables e below (T150.setTop (mkF m 233 #[.val (.long q1), .second, .val (.int p2), .val (.int p3), .val (.int p4), .val (.int p5), .val (.int p6), .val (.int (f0_v6 p4)), .val (.int (f0_v16 p5)), .val (.int (f0_s0_31 p6)), .val (.int (f0_s0_45 p6)), .val (.int (f0_v54 p6)), .val (.long (f0_s0_78 p5)), .second, .val (.int (p2.toInt8.toInt32)), .val (.int (p2.toUInt32.toUInt16.toUInt32.toInt32)), .val (.int (p3 &&& (65535 : Int32))), .val (.int ((f0_s0_113 p3).toUInt32.toUInt16.toUInt32.toInt32)), .val (.ref b7), .val (.ref b15), .unset, .unset, .unset, .unset, .unset] [(.int (1 : Int32)), (.int (f0_v6 p4)), (.ref b7)])) _
    refine XS.iadd X150.here hx rfl (hb hby at_233) rfl ?_
    show Steps p.tables e below (T150.setTop (mkF m 234 #[.val (.long q1), .second, .val (.int p2), .val (.int p3), .val (.int p4), .val (.int p5), .val (.int p6), .val (.int (f0_v6 p4)), .val (.int (f0_v16 p5)), .val (.int (f0_s0_31 p6)), .val (.int (f0_s0_45 p6)), .val (.int (f0_v54 p6)), .val (.long (f0_s0_78 p5)), .second, .val (.int (p2.toInt8.toInt32)), .val (.int (p2.toUInt32.toUInt16.toUInt32.toInt32)), .val (.int (p3 &&& (65535 : Int32))), .val (.int ((f0_s0_113 p3).toUInt32.toUInt16.toUInt32.toInt32)), .val (.ref b7), .val (.ref b15), .unset, .unset, .unset, .unset, .unset] [(.int ((f0_v6 p4) + (1 : Int32))), (.ref b7)])) _
    refine XS.lloadN X150.here hx rfl (hb hby at_234) rfl ?_
    show Steps p.tables e below (T150.setTop (mkF m 235 #[.val (.long q1), .second, .val (.int p2), .val (.int p3), .val (.int p4), .val (.int p5), .val (.int p6), .val (.int (f0_v6 p4)), .val (.int (f0_v16 p5)), .val (.int (f0_s0_31 p6)), .val (.int (f0_s0_45 p6)), .val (.int (f0_v54 p6)), .val (.long (f0_s0_78 p5)), .second, .val (.int (p2.toInt8.toInt32)), .val (.int (p2.toUInt32.toUInt16.toUInt32.toInt32)), .val (.int (p3 &&& (65535 : Int32))), .val (.int ((f0_s0_113 p3).toUInt32.toUInt16.toUInt32.toInt32)), .val (.ref b7), .val (.ref b15), .unset, .unset, .unset, .unset, .unset] [(.long q1), (.int ((f0_v6 p4) + (1 : Int32))), (.ref b7)])) _
    refine XS.bipush X150.here hx rfl (hb hby at_235) ?_
    show Steps p.tables e below (T150.setTop (mkF m 237 #[.val (.long q1), .second, .val (.int p2), .val (.int p3), .val (.int p4), .val (.int p5), .val (.int p6), .val (.int (f0_v6 p4)), .val (.int (f0_v16 p5)), .val (.int (f0_s0_31 p6)), .val (.int (f0_s0_45 p6)), .val (.int (f0_v54 p6)), .val (.long (f0_s0_78 p5)), .second, .val (.int (p2.toInt8.toInt32)), .val (.int (p2.toUInt32.toUInt16.toUInt32.toInt32)), .val (.int (p3 &&& (65535 : Int32))), .val (.int ((f0_s0_113 p3).toUInt32.toUInt16.toUInt32.toInt32)), .val (.ref b7), .val (.ref b15), .unset, .unset, .unset, .unset, .unset] [(.int (8 : Int32)), (.long q1), (.int ((f0_v6 p4) + (1 : Int32))), (.ref b7)])) _
    refine XS.lushr X150.here hx rfl (hb hby at_237) rfl ?_
    show Steps p.tables e below (T150.setTop (mkF m 238 #[.val (.long q1), .second, .val (.int p2), .val (.int p3), .val (.int p4), .val (.int p5), .val (.int p6), .val (.int (f0_v6 p4)), .val (.int (f0_v16 p5)), .val (.int (f0_s0_31 p6)), .val (.int (f0_s0_45 p6)), .val (.int (f0_v54 p6)), .val (.long (f0_s0_78 p5)), .second, .val (.int (p2.toInt8.toInt32)), .val (.int (p2.toUInt32.toUInt16.toUInt32.toInt32)), .val (.int (p3 &&& (65535 : Int32))), .val (.int ((f0_s0_113 p3).toUInt32.toUInt16.toUInt32.toInt32)), .val (.ref b7), .val (.ref b15), .unset, .unset, .unset, .unset, .unset] [(.long ((q1.toUInt64 >>> ((8 : Int32) &&& 0x3f).toInt64.toUInt64).toInt64)), (.int ((f0_v6 p4) + (1 : Int32))), (.ref b7)])) _
    refine XS.l2i X150.here hx rfl (hb hby at_238) rfl ?_
    show Steps p.tables e below (T150.setTop (mkF m 239 #[.val (.long q1), .second, .val (.int p2), .val (.int p3), .val (.int p4), .val (.int p5), .val (.int p6), .val (.int (f0_v6 p4)), .val (.int (f0_v16 p5)), .val (.int (f0_s0_31 p6)), .val (.int (f0_s0_45 p6)), .val (.int (f0_v54 p6)), .val (.long (f0_s0_78 p5)), .second, .val (.int (p2.toInt8.toInt32)), .val (.int (p2.toUInt32.toUInt16.toUInt32.toInt32)), .val (.int (p3 &&& (65535 : Int32))), .val (.int ((f0_s0_113 p3).toUInt32.toUInt16.toUInt32.toInt32)), .val (.ref b7), .val (.ref b15), .unset, .unset, .unset, .unset, .unset] [(.int (((q1.toUInt64 >>> ((8 : Int32) &&& 0x3f).toInt64.toUInt64).toInt64).toInt32)), (.int ((f0_v6 p4) + (1 : Int32))), (.ref b7)])) _
    refine XS.i2b X150.here hx rfl (hb hby at_239) rfl ?_
    show Steps p.tables e below (T150.setTop (mkF m 240 #[.val (.long q1), .second, .val (.int p2), .val (.int p3), .val (.int p4), .val (.int p5), .val (.int p6), .val (.int (f0_v6 p4)), .val (.int (f0_v16 p5)), .val (.int (f0_s0_31 p6)), .val (.int (f0_s0_45 p6)), .val (.int (f0_v54 p6)), .val (.long (f0_s0_78 p5)), .second, .val (.int (p2.toInt8.toInt32)), .val (.int (p2.toUInt32.toUInt16.toUInt32.toInt32)), .val (.int (p3 &&& (65535 : Int32))), .val (.int ((f0_s0_113 p3).toUInt32.toUInt16.toUInt32.toInt32)), .val (.ref b7), .val (.ref b15), .unset, .unset, .unset, .unset, .unset] [(.int ((((q1.toUInt64 >>> ((8 : Int32) &&& 0x3f).toInt64.toUInt64).toInt64).toInt32).toInt8.toInt32)), (.int ((f0_v6 p4) + (1 : Int32))), (.ref b7)])) _
    refine st159 _ ?_
    show Steps p.tables e below (T159.setTop (mkF m 241 #[.val (.long q1), .second, .val (.int p2), .val (.int p3), .val (.int p4), .val (.int p5), .val (.int p6), .val (.int (f0_v6 p4)), .val (.int (f0_v16 p5)), .val (.int (f0_s0_31 p6)), .val (.int (f0_s0_45 p6)), .val (.int (f0_v54 p6)), .val (.long (f0_s0_78 p5)), .second, .val (.int (p2.toInt8.toInt32)), .val (.int (p2.toUInt32.toUInt16.toUInt32.toInt32)), .val (.int (p3 &&& (65535 : Int32))), .val (.int ((f0_s0_113 p3).toUInt32.toUInt16.toUInt32.toInt32)), .val (.ref b7), .val (.ref b15), .unset, .unset, .unset, .unset, .unset] [])) _
    refine XS.aload X159.here hx rfl (hb hby at_241) rfl rfl ?_
    show Steps p.tables e below (T159.setTop (mkF m 243 #[.val (.long q1), .second, .val (.int p2), .val (.int p3), .val (.int p4), .val (.int p5), .val (.int p6), .val (.int (f0_v6 p4)), .val (.int (f0_v16 p5)), .val (.int (f0_s0_31 p6)), .val (.int (f0_s0_45 p6)), .val (.int (f0_v54 p6)), .val (.long (f0_s0_78 p5)), .second, .val (.int (p2.toInt8.toInt32)), .val (.int (p2.toUInt32.toUInt16.toUInt32.toInt32)), .val (.int (p3 &&& (65535 : Int32))), .val (.int ((f0_s0_113 p3).toUInt32.toUInt16.toUInt32.toInt32)), .val (.ref b7), .val (.ref b15), .unset, .unset, .unset, .unset, .unset] [(.ref b7)])) _
    refine XS.iload X159.here hx rfl (hb hby at_243) rfl ?_
    show Steps p.tables e below (T159.setTop (mkF m 245 #[.val (.long q1), .second, .val (.int p2), .val (.int p3), .val (.int p4), .val (.int p5), .val (.int p6), .val (.int (f0_v6 p4)), .val (.int (f0_v16 p5)), .val (.int (f0_s0_31 p6)), .val (.int (f0_s0_45 p6)), .val (.int (f0_v54 p6)), .val (.long (f0_s0_78 p5)), .second, .val (.int (p2.toInt8.toInt32)), .val (.int (p2.toUInt32.toUInt16.toUInt32.toInt32)), .val (.int (p3 &&& (65535 : Int32))), .val (.int ((f0_s0_113 p3).toUInt32.toUInt16.toUInt32.toInt32)), .val (.ref b7), .val (.ref b15), .unset, .unset, .unset, .unset, .unset] [(.int (f0_v6 p4)), (.ref b7)])) _
    refine XS.iconst X159.here hx rfl (hb hby at_245) ?_
    show Steps p.tables e below (T159.setTop (mkF m 246 #[.val (.long q1), .second, .val (.int p2), .val (.int p3), .val (.int p4), .val (.int p5), .val (.int p6), .val (.int (f0_v6 p4)), .val (.int (f0_v16 p5)), .val (.int (f0_s0_31 p6)), .val (.int (f0_s0_45 p6)), .val (.int (f0_v54 p6)), .val (.long (f0_s0_78 p5)), .second, .val (.int (p2.toInt8.toInt32)), .val (.int (p2.toUInt32.toUInt16.toUInt32.toInt32)), .val (.int (p3 &&& (65535 : Int32))), .val (.int ((f0_s0_113 p3).toUInt32.toUInt16.toUInt32.toInt32)), .val (.ref b7), .val (.ref b15), .unset, .unset, .unset, .unset, .unset] [(.int (2 : Int32)), (.int (f0_v6 p4)), (.ref b7)])) _
    refine XS.iadd X159.here hx rfl (hb hby at_246) rfl ?_
    show Steps p.tables e below (T159.setTop (mkF m 247 #[.val (.long q1), .second, .val (.int p2), .val (.int p3), .val (.int p4), .val (.int p5), .val (.int p6), .val (.int (f0_v6 p4)), .val (.int (f0_v16 p5)), .val (.int (f0_s0_31 p6)), .val (.int (f0_s0_45 p6)), .val (.int (f0_v54 p6)), .val (.long (f0_s0_78 p5)), .second, .val (.int (p2.toInt8.toInt32)), .val (.int (p2.toUInt32.toUInt16.toUInt32.toInt32)), .val (.int (p3 &&& (65535 : Int32))), .val (.int ((f0_s0_113 p3).toUInt32.toUInt16.toUInt32.toInt32)), .val (.ref b7), .val (.ref b15), .unset, .unset, .unset, .unset, .unset] [(.int ((f0_v6 p4) + (2 : Int32))), (.ref b7)])) _
    refine XS.lloadN X159.here hx rfl (hb hby at_247) rfl ?_
    show Steps p.tables e below (T159.setTop (mkF m 248 #[.val (.long q1), .second, .val (.int p2), .val (.int p3), .val (.int p4), .val (.int p5), .val (.int p6), .val (.int (f0_v6 p4)), .val (.int (f0_v16 p5)), .val (.int (f0_s0_31 p6)), .val (.int (f0_s0_45 p6)), .val (.int (f0_v54 p6)), .val (.long (f0_s0_78 p5)), .second, .val (.int (p2.toInt8.toInt32)), .val (.int (p2.toUInt32.toUInt16.toUInt32.toInt32)), .val (.int (p3 &&& (65535 : Int32))), .val (.int ((f0_s0_113 p3).toUInt32.toUInt16.toUInt32.toInt32)), .val (.ref b7), .val (.ref b15), .unset, .unset, .unset, .unset, .unset] [(.long q1), (.int ((f0_v6 p4) + (2 : Int32))), (.ref b7)])) _
    refine XS.bipush X159.here hx rfl (hb hby at_248) ?_
    show Steps p.tables e below (T159.setTop (mkF m 250 #[.val (.long q1), .second, .val (.int p2), .val (.int p3), .val (.int p4), .val (.int p5), .val (.int p6), .val (.int (f0_v6 p4)), .val (.int (f0_v16 p5)), .val (.int (f0_s0_31 p6)), .val (.int (f0_s0_45 p6)), .val (.int (f0_v54 p6)), .val (.long (f0_s0_78 p5)), .second, .val (.int (p2.toInt8.toInt32)), .val (.int (p2.toUInt32.toUInt16.toUInt32.toInt32)), .val (.int (p3 &&& (65535 : Int32))), .val (.int ((f0_s0_113 p3).toUInt32.toUInt16.toUInt32.toInt32)), .val (.ref b7), .val (.ref b15), .unset, .unset, .unset, .unset, .unset] [(.int (16 : Int32)), (.long q1), (.int ((f0_v6 p4) + (2 : Int32))), (.ref b7)])) _
    refine XS.lushr X159.here hx rfl (hb hby at_250) rfl ?_
    show Steps p.tables e below (T159.setTop (mkF m 251 #[.val (.long q1), .second, .val (.int p2), .val (.int p3), .val (.int p4), .val (.int p5), .val (.int p6), .val (.int (f0_v6 p4)), .val (.int (f0_v16 p5)), .val (.int (f0_s0_31 p6)), .val (.int (f0_s0_45 p6)), .val (.int (f0_v54 p6)), .val (.long (f0_s0_78 p5)), .second, .val (.int (p2.toInt8.toInt32)), .val (.int (p2.toUInt32.toUInt16.toUInt32.toInt32)), .val (.int (p3 &&& (65535 : Int32))), .val (.int ((f0_s0_113 p3).toUInt32.toUInt16.toUInt32.toInt32)), .val (.ref b7), .val (.ref b15), .unset, .unset, .unset, .unset, .unset] [(.long ((q1.toUInt64 >>> ((16 : Int32) &&& 0x3f).toInt64.toUInt64).toInt64)), (.int ((f0_v6 p4) + (2 : Int32))), (.ref b7)])) _
    refine XS.l2i X159.here hx rfl (hb hby at_251) rfl ?_
    show Steps p.tables e below (T159.setTop (mkF m 252 #[.val (.long q1), .second, .val (.int p2), .val (.int p3), .val (.int p4), .val (.int p5), .val (.int p6), .val (.int (f0_v6 p4)), .val (.int (f0_v16 p5)), .val (.int (f0_s0_31 p6)), .val (.int (f0_s0_45 p6)), .val (.int (f0_v54 p6)), .val (.long (f0_s0_78 p5)), .second, .val (.int (p2.toInt8.toInt32)), .val (.int (p2.toUInt32.toUInt16.toUInt32.toInt32)), .val (.int (p3 &&& (65535 : Int32))), .val (.int ((f0_s0_113 p3).toUInt32.toUInt16.toUInt32.toInt32)), .val (.ref b7), .val (.ref b15), .unset, .unset, .unset, .unset, .unset] [(.int (((q1.toUInt64 >>> ((16 : Int32) &&& 0x3f).toInt64.toUInt64).toInt64).toInt32)), (.int ((f0_v6 p4) + (2 : Int32))), (.ref b7)])) _
    refine XS.i2b X159.here hx rfl (hb hby at_252) rfl ?_
    show Steps p.tables e below (T159.setTop (mkF m 253 #[.val (.long q1), .second, .val (.int p2), .val (.int p3), .val (.int p4), .val (.int p5), .val (.int p6), .val (.int (f0_v6 p4)), .val (.int (f0_v16 p5)), .val (.int (f0_s0_31 p6)), .val (.int (f0_s0_45 p6)), .val (.int (f0_v54 p6)), .val (.long (f0_s0_78 p5)), .second, .val (.int (p2.toInt8.toInt32)), .val (.int (p2.toUInt32.toUInt16.toUInt32.toInt32)), .val (.int (p3 &&& (65535 : Int32))), .val (.int ((f0_s0_113 p3).toUInt32.toUInt16.toUInt32.toInt32)), .val (.ref b7), .val (.ref b15), .unset, .unset, .unset, .unset, .unset] [(.int ((((q1.toUInt64 >>> ((16 : Int32) &&& 0x3f).toInt64.toUInt64).toInt64).toInt32).toInt8.toInt32)), (.int ((f0_v6 p4) + (2 : Int32))), (.ref b7)])) _
    refine st168 _ ?_
    show Steps p.tables e below (T168.setTop (mkF m 254 #[.val (.long q1), .second, .val (.int p2), .val (.int p3), .val (.int p4), .val (.int p5), .val (.int p6), .val (.int (f0_v6 p4)), .val (.int (f0_v16 p5)), .val (.int (f0_s0_31 p6)), .val (.int (f0_s0_45 p6)), .val (.int (f0_v54 p6)), .val (.long (f0_s0_78 p5)), .second, .val (.int (p2.toInt8.toInt32)), .val (.int (p2.toUInt32.toUInt16.toUInt32.toInt32)), .val (.int (p3 &&& (65535 : Int32))), .val (.int ((f0_s0_113 p3).toUInt32.toUInt16.toUInt32.toInt32)), .val (.ref b7), .val (.ref b15), .unset, .unset, .unset, .unset, .unset] [])) _
    refine XS.aload X168.here hx rfl (hb hby at_254) rfl rfl ?_
    show Steps p.tables e below (T168.setTop (mkF m 256 #[.val (.long q1), .second, .val (.int p2), .val (.int p3), .val (.int p4), .val (.int p5), .val (.int p6), .val (.int (f0_v6 p4)), .val (.int (f0_v16 p5)), .val (.int (f0_s0_31 p6)), .val (.int (f0_s0_45 p6)), .val (.int (f0_v54 p6)), .val (.long (f0_s0_78 p5)), .second, .val (.int (p2.toInt8.toInt32)), .val (.int (p2.toUInt32.toUInt16.toUInt32.toInt32)), .val (.int (p3 &&& (65535 : Int32))), .val (.int ((f0_s0_113 p3).toUInt32.toUInt16.toUInt32.toInt32)), .val (.ref b7), .val (.ref b15), .unset, .unset, .unset, .unset, .unset] [(.ref b7)])) _
    refine XS.iload X168.here hx rfl (hb hby at_256) rfl ?_
    show Steps p.tables e below (T168.setTop (mkF m 258 #[.val (.long q1), .second, .val (.int p2), .val (.int p3), .val (.int p4), .val (.int p5), .val (.int p6), .val (.int (f0_v6 p4)), .val (.int (f0_v16 p5)), .val (.int (f0_s0_31 p6)), .val (.int (f0_s0_45 p6)), .val (.int (f0_v54 p6)), .val (.long (f0_s0_78 p5)), .second, .val (.int (p2.toInt8.toInt32)), .val (.int (p2.toUInt32.toUInt16.toUInt32.toInt32)), .val (.int (p3 &&& (65535 : Int32))), .val (.int ((f0_s0_113 p3).toUInt32.toUInt16.toUInt32.toInt32)), .val (.ref b7), .val (.ref b15), .unset, .unset, .unset, .unset, .unset] [(.int (f0_v6 p4)), (.ref b7)])) _
    refine XS.iconst X168.here hx rfl (hb hby at_258) ?_
    show Steps p.tables e below (T168.setTop (mkF m 259 #[.val (.long q1), .second, .val (.int p2), .val (.int p3), .val (.int p4), .val (.int p5), .val (.int p6), .val (.int (f0_v6 p4)), .val (.int (f0_v16 p5)), .val (.int (f0_s0_31 p6)), .val (.int (f0_s0_45 p6)), .val (.int (f0_v54 p6)), .val (.long (f0_s0_78 p5)), .second, .val (.int (p2.toInt8.toInt32)), .val (.int (p2.toUInt32.toUInt16.toUInt32.toInt32)), .val (.int (p3 &&& (65535 : Int32))), .val (.int ((f0_s0_113 p3).toUInt32.toUInt16.toUInt32.toInt32)), .val (.ref b7), .val (.ref b15), .unset, .unset, .unset, .unset, .unset] [(.int (3 : Int32)), (.int (f0_v6 p4)), (.ref b7)])) _
    refine XS.iadd X168.here hx rfl (hb hby at_259) rfl ?_
    show Steps p.tables e below (T168.setTop (mkF m 260 #[.val (.long q1), .second, .val (.int p2), .val (.int p3), .val (.int p4), .val (.int p5), .val (.int p6), .val (.int (f0_v6 p4)), .val (.int (f0_v16 p5)), .val (.int (f0_s0_31 p6)), .val (.int (f0_s0_45 p6)), .val (.int (f0_v54 p6)), .val (.long (f0_s0_78 p5)), .second, .val (.int (p2.toInt8.toInt32)), .val (.int (p2.toUInt32.toUInt16.toUInt32.toInt32)), .val (.int (p3 &&& (65535 : Int32))), .val (.int ((f0_s0_113 p3).toUInt32.toUInt16.toUInt32.toInt32)), .val (.ref b7), .val (.ref b15), .unset, .unset, .unset, .unset, .unset] [(.int ((f0_v6 p4) + (3 : Int32))), (.ref b7)])) _
    refine XS.lloadN X168.here hx rfl (hb hby at_260) rfl ?_
    show Steps p.tables e below (T168.setTop (mkF m 261 #[.val (.long q1), .second, .val (.int p2), .val (.int p3), .val (.int p4), .val (.int p5), .val (.int p6), .val (.int (f0_v6 p4)), .val (.int (f0_v16 p5)), .val (.int (f0_s0_31 p6)), .val (.int (f0_s0_45 p6)), .val (.int (f0_v54 p6)), .val (.long (f0_s0_78 p5)), .second, .val (.int (p2.toInt8.toInt32)), .val (.int (p2.toUInt32.toUInt16.toUInt32.toInt32)), .val (.int (p3 &&& (65535 : Int32))), .val (.int ((f0_s0_113 p3).toUInt32.toUInt16.toUInt32.toInt32)), .val (.ref b7), .val (.ref b15), .unset, .unset, .unset, .unset, .unset] [(.long q1), (.int ((f0_v6 p4) + (3 : Int32))), (.ref b7)])) _
    refine XS.bipush X168.here hx rfl (hb hby at_261) ?_
    show Steps p.tables e below (T168.setTop (mkF m 263 #[.val (.long q1), .second, .val (.int p2), .val (.int p3), .val (.int p4), .val (.int p5), .val (.int p6), .val (.int (f0_v6 p4)), .val (.int (f0_v16 p5)), .val (.int (f0_s0_31 p6)), .val (.int (f0_s0_45 p6)), .val (.int (f0_v54 p6)), .val (.long (f0_s0_78 p5)), .second, .val (.int (p2.toInt8.toInt32)), .val (.int (p2.toUInt32.toUInt16.toUInt32.toInt32)), .val (.int (p3 &&& (65535 : Int32))), .val (.int ((f0_s0_113 p3).toUInt32.toUInt16.toUInt32.toInt32)), .val (.ref b7), .val (.ref b15), .unset, .unset, .unset, .unset, .unset] [(.int (24 : Int32)), (.long q1), (.int ((f0_v6 p4) + (3 : Int32))), (.ref b7)])) _
    refine XS.lushr X168.here hx rfl (hb hby at_263) rfl ?_
    show Steps p.tables e below (T168.setTop (mkF m 264 #[.val (.long q1), .second, .val (.int p2), .val (.int p3), .val (.int p4), .val (.int p5), .val (.int p6), .val (.int (f0_v6 p4)), .val (.int (f0_v16 p5)), .val (.int (f0_s0_31 p6)), .val (.int (f0_s0_45 p6)), .val (.int (f0_v54 p6)), .val (.long (f0_s0_78 p5)), .second, .val (.int (p2.toInt8.toInt32)), .val (.int (p2.toUInt32.toUInt16.toUInt32.toInt32)), .val (.int (p3 &&& (65535 : Int32))), .val (.int ((f0_s0_113 p3).toUInt32.toUInt16.toUInt32.toInt32)), .val (.ref b7), .val (.ref b15), .unset, .unset, .unset, .unset, .unset] [(.long ((q1.toUInt64 >>> ((24 : Int32) &&& 0x3f).toInt64.toUInt64).toInt64)), (.int ((f0_v6 p4) + (3 : Int32))), (.ref b7)])) _
    refine XS.l2i X168.here hx rfl (hb hby at_264) rfl ?_
    show Steps p.tables e below (T168.setTop (mkF m 265 #[.val (.long q1), .second, .val (.int p2), .val (.int p3), .val (.int p4), .val (.int p5), .val (.int p6), .val (.int (f0_v6 p4)), .val (.int (f0_v16 p5)), .val (.int (f0_s0_31 p6)), .val (.int (f0_s0_45 p6)), .val (.int (f0_v54 p6)), .val (.long (f0_s0_78 p5)), .second, .val (.int (p2.toInt8.toInt32)), .val (.int (p2.toUInt32.toUInt16.toUInt32.toInt32)), .val (.int (p3 &&& (65535 : Int32))), .val (.int ((f0_s0_113 p3).toUInt32.toUInt16.toUInt32.toInt32)), .val (.ref b7), .val (.ref b15), .unset, .unset, .unset, .unset, .unset] [(.int (((q1.toUInt64 >>> ((24 : Int32) &&& 0x3f).toInt64.toUInt64).toInt64).toInt32)), (.int ((f0_v6 p4) + (3 : Int32))), (.ref b7)])) _
    refine XS.i2b X168.here hx rfl (hb hby at_265) rfl ?_
    show Steps p.tables e below (T168.setTop (mkF m 266 #[.val (.long q1), .second, .val (.int p2), .val (.int p3), .val (.int p4), .val (.int p5), .val (.int p6), .val (.int (f0_v6 p4)), .val (.int (f0_v16 p5)), .val (.int (f0_s0_31 p6)), .val (.int (f0_s0_45 p6)), .val (.int (f0_v54 p6)), .val (.long (f0_s0_78 p5)), .second, .val (.int (p2.toInt8.toInt32)), .val (.int (p2.toUInt32.toUInt16.toUInt32.toInt32)), .val (.int (p3 &&& (65535 : Int32))), .val (.int ((f0_s0_113 p3).toUInt32.toUInt16.toUInt32.toInt32)), .val (.ref b7), .val (.ref b15), .unset, .unset, .unset, .unset, .unset] [(.int ((((q1.toUInt64 >>> ((24 : Int32) &&& 0x3f).toInt64.toUInt64).toInt64).toInt32).toInt8.toInt32)), (.int ((f0_v6 p4) + (3 : Int32))), (.ref b7)])) _
    refine st177 _ ?_
    show Steps p.tables e below (T177.setTop (mkF m 267 #[.val (.long q1), .second, .val (.int p2), .val (.int p3), .val (.int p4), .val (.int p5), .val (.int p6), .val (.int (f0_v6 p4)), .val (.int (f0_v16 p5)), .val (.int (f0_s0_31 p6)), .val (.int (f0_s0_45 p6)), .val (.int (f0_v54 p6)), .val (.long (f0_s0_78 p5)), .second, .val (.int (p2.toInt8.toInt32)), .val (.int (p2.toUInt32.toUInt16.toUInt32.toInt32)), .val (.int (p3 &&& (65535 : Int32))), .val (.int ((f0_s0_113 p3).toUInt32.toUInt16.toUInt32.toInt32)), .val (.ref b7), .val (.ref b15), .unset, .unset, .unset, .unset, .unset] [])) _
    refine XS.aload X177.here hx rfl (hb hby at_267) rfl rfl ?_
    show Steps p.tables e below (T177.setTop (mkF m 269 #[.val (.long q1), .second, .val (.int p2), .val (.int p3), .val (.int p4), .val (.int p5), .val (.int p6), .val (.int (f0_v6 p4)), .val (.int (f0_v16 p5)), .val (.int (f0_s0_31 p6)), .val (.int (f0_s0_45 p6)), .val (.int (f0_v54 p6)), .val (.long (f0_s0_78 p5)), .second, .val (.int (p2.toInt8.toInt32)), .val (.int (p2.toUInt32.toUInt16.toUInt32.toInt32)), .val (.int (p3 &&& (65535 : Int32))), .val (.int ((f0_s0_113 p3).toUInt32.toUInt16.toUInt32.toInt32)), .val (.ref b7), .val (.ref b15), .unset, .unset, .unset, .unset, .unset] [(.ref b7)])) _
    refine XS.iload X177.here hx rfl (hb hby at_269) rfl ?_
    show Steps p.tables e below (T177.setTop (mkF m 271 #[.val (.long q1), .second, .val (.int p2), .val (.int p3), .val (.int p4), .val (.int p5), .val (.int p6), .val (.int (f0_v6 p4)), .val (.int (f0_v16 p5)), .val (.int (f0_s0_31 p6)), .val (.int (f0_s0_45 p6)), .val (.int (f0_v54 p6)), .val (.long (f0_s0_78 p5)), .second, .val (.int (p2.toInt8.toInt32)), .val (.int (p2.toUInt32.toUInt16.toUInt32.toInt32)), .val (.int (p3 &&& (65535 : Int32))), .val (.int ((f0_s0_113 p3).toUInt32.toUInt16.toUInt32.toInt32)), .val (.ref b7), .val (.ref b15), .unset, .unset, .unset, .unset, .unset] [(.int (f0_v6 p4)), (.ref b7)])) _
    refine XS.iconst X177.here hx rfl (hb hby at_271) ?_
    show Steps p.tables e below (T177.setTop (mkF m 272 #[.val (.long q1), .second, .val (.int p2), .val (.int p3), .val (.int p4), .val (.int p5), .val (.int p6), .val (.int (f0_v6 p4)), .val (.int (f0_v16 p5)), .val (.int (f0_s0_31 p6)), .val (.int (f0_s0_45 p6)), .val (.int (f0_v54 p6)), .val (.long (f0_s0_78 p5)), .second, .val (.int (p2.toInt8.toInt32)), .val (.int (p2.toUInt32.toUInt16.toUInt32.toInt32)), .val (.int (p3 &&& (65535 : Int32))), .val (.int ((f0_s0_113 p3).toUInt32.toUInt16.toUInt32.toInt32)), .val (.ref b7), .val (.ref b15), .unset, .unset, .unset, .unset, .unset] [(.int (4 : Int32)), (.int (f0_v6 p4)), (.ref b7)])) _
    refine XS.iadd X177.here hx rfl (hb hby at_272) rfl ?_
    show Steps p.tables e below (T177.setTop (mkF m 273 #[.val (.long q1), .second, .val (.int p2), .val (.int p3), .val (.int p4), .val (.int p5), .val (.int p6), .val (.int (f0_v6 p4)), .val (.int (f0_v16 p5)), .val (.int (f0_s0_31 p6)), .val (.int (f0_s0_45 p6)), .val (.int (f0_v54 p6)), .val (.long (f0_s0_78 p5)), .second, .val (.int (p2.toInt8.toInt32)), .val (.int (p2.toUInt32.toUInt16.toUInt32.toInt32)), .val (.int (p3 &&& (65535 : Int32))), .val (.int ((f0_s0_113 p3).toUInt32.toUInt16.toUInt32.toInt32)), .val (.ref b7), .val (.ref b15), .unset, .unset, .unset, .unset, .unset] [(.int ((f0_v6 p4) + (4 : Int32))), (.ref b7)])) _
    refine XS.lloadN X177.here hx rfl (hb hby at_273) rfl ?_
    show Steps p.tables e below (T177.setTop (mkF m 274 #[.val (.long q1), .second, .val (.int p2), .val (.int p3), .val (.int p4), .val (.int p5), .val (.int p6), .val (.int (f0_v6 p4)), .val (.int (f0_v16 p5)), .val (.int (f0_s0_31 p6)), .val (.int (f0_s0_45 p6)), .val (.int (f0_v54 p6)), .val (.long (f0_s0_78 p5)), .second, .val (.int (p2.toInt8.toInt32)), .val (.int (p2.toUInt32.toUInt16.toUInt32.toInt32)), .val (.int (p3 &&& (65535 : Int32))), .val (.int ((f0_s0_113 p3).toUInt32.toUInt16.toUInt32.toInt32)), .val (.ref b7), .val (.ref b15), .unset, .unset, .unset, .unset, .unset] [(.long q1), (.int ((f0_v6 p4) + (4 : Int32))), (.ref b7)])) _
    refine XS.bipush X177.here hx rfl (hb hby at_274) ?_
    show Steps p.tables e below (T177.setTop (mkF m 276 #[.val (.long q1), .second, .val (.int p2), .val (.int p3), .val (.int p4), .val (.int p5), .val (.int p6), .val (.int (f0_v6 p4)), .val (.int (f0_v16 p5)), .val (.int (f0_s0_31 p6)), .val (.int (f0_s0_45 p6)), .val (.int (f0_v54 p6)), .val (.long (f0_s0_78 p5)), .second, .val (.int (p2.toInt8.toInt32)), .val (.int (p2.toUInt32.toUInt16.toUInt32.toInt32)), .val (.int (p3 &&& (65535 : Int32))), .val (.int ((f0_s0_113 p3).toUInt32.toUInt16.toUInt32.toInt32)), .val (.ref b7), .val (.ref b15), .unset, .unset, .unset, .unset, .unset] [(.int (32 : Int32)), (.long q1), (.int ((f0_v6 p4) + (4 : Int32))), (.ref b7)])) _
    refine XS.lushr X177.here hx rfl (hb hby at_276) rfl ?_
    show Steps p.tables e below (T177.setTop (mkF m 277 #[.val (.long q1), .second, .val (.int p2), .val (.int p3), .val (.int p4), .val (.int p5), .val (.int p6), .val (.int (f0_v6 p4)), .val (.int (f0_v16 p5)), .val (.int (f0_s0_31 p6)), .val (.int (f0_s0_45 p6)), .val (.int (f0_v54 p6)), .val (.long (f0_s0_78 p5)), .second, .val (.int (p2.toInt8.toInt32)), .val (.int (p2.toUInt32.toUInt16.toUInt32.toInt32)), .val (.int (p3 &&& (65535 : Int32))), .val (.int ((f0_s0_113 p3).toUInt32.toUInt16.toUInt32.toInt32)), .val (.ref b7), .val (.ref b15), .unset, .unset, .unset, .unset, .unset] [(.long ((q1.toUInt64 >>> ((32 : Int32) &&& 0x3f).toInt64.toUInt64).toInt64)), (.int ((f0_v6 p4) + (4 : Int32))), (.ref b7)])) _
    refine XS.l2i X177.here hx rfl (hb hby at_277) rfl ?_
    show Steps p.tables e below (T177.setTop (mkF m 278 #[.val (.long q1), .second, .val (.int p2), .val (.int p3), .val (.int p4), .val (.int p5), .val (.int p6), .val (.int (f0_v6 p4)), .val (.int (f0_v16 p5)), .val (.int (f0_s0_31 p6)), .val (.int (f0_s0_45 p6)), .val (.int (f0_v54 p6)), .val (.long (f0_s0_78 p5)), .second, .val (.int (p2.toInt8.toInt32)), .val (.int (p2.toUInt32.toUInt16.toUInt32.toInt32)), .val (.int (p3 &&& (65535 : Int32))), .val (.int ((f0_s0_113 p3).toUInt32.toUInt16.toUInt32.toInt32)), .val (.ref b7), .val (.ref b15), .unset, .unset, .unset, .unset, .unset] [(.int (((q1.toUInt64 >>> ((32 : Int32) &&& 0x3f).toInt64.toUInt64).toInt64).toInt32)), (.int ((f0_v6 p4) + (4 : Int32))), (.ref b7)])) _
    refine XS.i2b X177.here hx rfl (hb hby at_278) rfl ?_
    show Steps p.tables e below (T177.setTop (mkF m 279 #[.val (.long q1), .second, .val (.int p2), .val (.int p3), .val (.int p4), .val (.int p5), .val (.int p6), .val (.int (f0_v6 p4)), .val (.int (f0_v16 p5)), .val (.int (f0_s0_31 p6)), .val (.int (f0_s0_45 p6)), .val (.int (f0_v54 p6)), .val (.long (f0_s0_78 p5)), .second, .val (.int (p2.toInt8.toInt32)), .val (.int (p2.toUInt32.toUInt16.toUInt32.toInt32)), .val (.int (p3 &&& (65535 : Int32))), .val (.int ((f0_s0_113 p3).toUInt32.toUInt16.toUInt32.toInt32)), .val (.ref b7), .val (.ref b15), .unset, .unset, .unset, .unset, .unset] [(.int ((((q1.toUInt64 >>> ((32 : Int32) &&& 0x3f).toInt64.toUInt64).toInt64).toInt32).toInt8.toInt32)), (.int ((f0_v6 p4) + (4 : Int32))), (.ref b7)])) _
    refine st186 _ ?_
    show Steps p.tables e below (T186.setTop (mkF m 280 #[.val (.long q1), .second, .val (.int p2), .val (.int p3), .val (.int p4), .val (.int p5), .val (.int p6), .val (.int (f0_v6 p4)), .val (.int (f0_v16 p5)), .val (.int (f0_s0_31 p6)), .val (.int (f0_s0_45 p6)), .val (.int (f0_v54 p6)), .val (.long (f0_s0_78 p5)), .second, .val (.int (p2.toInt8.toInt32)), .val (.int (p2.toUInt32.toUInt16.toUInt32.toInt32)), .val (.int (p3 &&& (65535 : Int32))), .val (.int ((f0_s0_113 p3).toUInt32.toUInt16.toUInt32.toInt32)), .val (.ref b7), .val (.ref b15), .unset, .unset, .unset, .unset, .unset] [])) _
    refine XS.aload X186.here hx rfl (hb hby at_280) rfl rfl ?_
    show Steps p.tables e below (T186.setTop (mkF m 282 #[.val (.long q1), .second, .val (.int p2), .val (.int p3), .val (.int p4), .val (.int p5), .val (.int p6), .val (.int (f0_v6 p4)), .val (.int (f0_v16 p5)), .val (.int (f0_s0_31 p6)), .val (.int (f0_s0_45 p6)), .val (.int (f0_v54 p6)), .val (.long (f0_s0_78 p5)), .second, .val (.int (p2.toInt8.toInt32)), .val (.int (p2.toUInt32.toUInt16.toUInt32.toInt32)), .val (.int (p3 &&& (65535 : Int32))), .val (.int ((f0_s0_113 p3).toUInt32.toUInt16.toUInt32.toInt32)), .val (.ref b7), .val (.ref b15), .unset, .unset, .unset, .unset, .unset] [(.ref b7)])) _
    refine XS.iload X186.here hx rfl (hb hby at_282) rfl ?_
    show Steps p.tables e below (T186.setTop (mkF m 284 #[.val (.long q1), .second, .val (.int p2), .val (.int p3), .val (.int p4), .val (.int p5), .val (.int p6), .val (.int (f0_v6 p4)), .val (.int (f0_v16 p5)), .val (.int (f0_s0_31 p6)), .val (.int (f0_s0_45 p6)), .val (.int (f0_v54 p6)), .val (.long (f0_s0_78 p5)), .second, .val (.int (p2.toInt8.toInt32)), .val (.int (p2.toUInt32.toUInt16.toUInt32.toInt32)), .val (.int (p3 &&& (65535 : Int32))), .val (.int ((f0_s0_113 p3).toUInt32.toUInt16.toUInt32.toInt32)), .val (.ref b7), .val (.ref b15), .unset, .unset, .unset, .unset, .unset] [(.int (f0_v6 p4)), (.ref b7)])) _
    refine XS.iconst X186.here hx rfl (hb hby at_284) ?_
    show Steps p.tables e below (T186.setTop (mkF m 285 #[.val (.long q1), .second, .val (.int p2), .val (.int p3), .val (.int p4), .val (.int p5), .val (.int p6), .val (.int (f0_v6 p4)), .val (.int (f0_v16 p5)), .val (.int (f0_s0_31 p6)), .val (.int (f0_s0_45 p6)), .val (.int (f0_v54 p6)), .val (.long (f0_s0_78 p5)), .second, .val (.int (p2.toInt8.toInt32)), .val (.int (p2.toUInt32.toUInt16.toUInt32.toInt32)), .val (.int (p3 &&& (65535 : Int32))), .val (.int ((f0_s0_113 p3).toUInt32.toUInt16.toUInt32.toInt32)), .val (.ref b7), .val (.ref b15), .unset, .unset, .unset, .unset, .unset] [(.int (5 : Int32)), (.int (f0_v6 p4)), (.ref b7)])) _
    refine XS.iadd X186.here hx rfl (hb hby at_285) rfl ?_
    show Steps p.tables e below (T186.setTop (mkF m 286 #[.val (.long q1), .second, .val (.int p2), .val (.int p3), .val (.int p4), .val (.int p5), .val (.int p6), .val (.int (f0_v6 p4)), .val (.int (f0_v16 p5)), .val (.int (f0_s0_31 p6)), .val (.int (f0_s0_45 p6)), .val (.int (f0_v54 p6)), .val (.long (f0_s0_78 p5)), .second, .val (.int (p2.toInt8.toInt32)), .val (.int (p2.toUInt32.toUInt16.toUInt32.toInt32)), .val (.int (p3 &&& (65535 : Int32))), .val (.int ((f0_s0_113 p3).toUInt32.toUInt16.toUInt32.toInt32)), .val (.ref b7), .val (.ref b15), .unset, .unset, .unset, .unset, .unset] [(.int ((f0_v6 p4) + (5 : Int32))), (.ref b7)])) _
    refine XS.lloadN X186.here hx rfl (hb hby at_286) rfl ?_
    show Steps p.tables e below (T186.setTop (mkF m 287 #[.val (.long q1), .second, .val (.int p2), .val (.int p3), .val (.int p4), .val (.int p5), .val (.int p6), .val (.int (f0_v6 p4)), .val (.int (f0_v16 p5)), .val (.int (f0_s0_31 p6)), .val (.int (f0_s0_45 p6)), .val (.int (f0_v54 p6)), .val (.long (f0_s0_78 p5)), .second, .val (.int (p2.toInt8.toInt32)), .val (.int (p2.toUInt32.toUInt16.toUInt32.toInt32)), .val (.int (p3 &&& (65535 : Int32))), .val (.int ((f0_s0_113 p3).toUInt32.toUInt16.toUInt32.toInt32)), .val (.ref b7), .val (.ref b15), .unset, .unset, .unset, .unset, .unset] [(.long q1), (.int ((f0_v6 p4) + (5 : Int32))), (.ref b7)])) _
    refine XS.bipush X186.here hx rfl (hb hby at_287) ?_
    show Steps p.tables e below (T186.setTop (mkF m 289 #[.val (.long q1), .second, .val (.int p2), .val (.int p3), .val (.int p4), .val (.int p5), .val (.int p6), .val (.int (f0_v6 p4)), .val (.int (f0_v16 p5)), .val (.int (f0_s0_31 p6)), .val (.int (f0_s0_45 p6)), .val (.int (f0_v54 p6)), .val (.long (f0_s0_78 p5)), .second, .val (.int (p2.toInt8.toInt32)), .val (.int (p2.toUInt32.toUInt16.toUInt32.toInt32)), .val (.int (p3 &&& (65535 : Int32))), .val (.int ((f0_s0_113 p3).toUInt32.toUInt16.toUInt32.toInt32)), .val (.ref b7), .val (.ref b15), .unset, .unset, .unset, .unset, .unset] [(.int (40 : Int32)), (.long q1), (.int ((f0_v6 p4) + (5 : Int32))), (.ref b7)])) _
    refine XS.lushr X186.here hx rfl (hb hby at_289) rfl ?_
    show Steps p.tables e below (T186.setTop (mkF m 290 #[.val (.long q1), .second, .val (.int p2), .val (.int p3), .val (.int p4), .val (.int p5), .val (.int p6), .val (.int (f0_v6 p4)), .val (.int (f0_v16 p5)), .val (.int (f0_s0_31 p6)), .val (.int (f0_s0_45 p6)), .val (.int (f0_v54 p6)), .val (.long (f0_s0_78 p5)), .second, .val (.int (p2.toInt8.toInt32)), .val (.int (p2.toUInt32.toUInt16.toUInt32.toInt32)), .val (.int (p3 &&& (65535 : Int32))), .val (.int ((f0_s0_113 p3).toUInt32.toUInt16.toUInt32.toInt32)), .val (.ref b7), .val (.ref b15), .unset, .unset, .unset, .unset, .unset] [(.long ((q1.toUInt64 >>> ((40 : Int32) &&& 0x3f).toInt64.toUInt64).toInt64)), (.int ((f0_v6 p4) + (5 : Int32))), (.ref b7)])) _
    refine XS.l2i X186.here hx rfl (hb hby at_290) rfl ?_
    show Steps p.tables e below (T186.setTop (mkF m 291 #[.val (.long q1), .second, .val (.int p2), .val (.int p3), .val (.int p4), .val (.int p5), .val (.int p6), .val (.int (f0_v6 p4)), .val (.int (f0_v16 p5)), .val (.int (f0_s0_31 p6)), .val (.int (f0_s0_45 p6)), .val (.int (f0_v54 p6)), .val (.long (f0_s0_78 p5)), .second, .val (.int (p2.toInt8.toInt32)), .val (.int (p2.toUInt32.toUInt16.toUInt32.toInt32)), .val (.int (p3 &&& (65535 : Int32))), .val (.int ((f0_s0_113 p3).toUInt32.toUInt16.toUInt32.toInt32)), .val (.ref b7), .val (.ref b15), .unset, .unset, .unset, .unset, .unset] [(.int (((q1.toUInt64 >>> ((40 : Int32) &&& 0x3f).toInt64.toUInt64).toInt64).toInt32)), (.int ((f0_v6 p4) + (5 : Int32))), (.ref b7)])) _
    refine XS.i2b X186.here hx rfl (hb hby at_291) rfl ?_
    show Steps p.tables e below (T186.setTop (mkF m 292 #[.val (.long q1), .second, .val (.int p2), .val (.int p3), .val (.int p4), .val (.int p5), .val (.int p6), .val (.int (f0_v6 p4)), .val (.int (f0_v16 p5)), .val (.int (f0_s0_31 p6)), .val (.int (f0_s0_45 p6)), .val (.int (f0_v54 p6)), .val (.long (f0_s0_78 p5)), .second, .val (.int (p2.toInt8.toInt32)), .val (.int (p2.toUInt32.toUInt16.toUInt32.toInt32)), .val (.int (p3 &&& (65535 : Int32))), .val (.int ((f0_s0_113 p3).toUInt32.toUInt16.toUInt32.toInt32)), .val (.ref b7), .val (.ref b15), .unset, .unset, .unset, .unset, .unset] [(.int ((((q1.toUInt64 >>> ((40 : Int32) &&& 0x3f).toInt64.toUInt64).toInt64).toInt32).toInt8.toInt32)), (.int ((f0_v6 p4) + (5 : Int32))), (.ref b7)])) _
    refine st195 _ ?_
    show Steps p.tables e below (T195.setTop (mkF m 293 #[.val (.long q1), .second, .val (.int p2), .val (.int p3), .val (.int p4), .val (.int p5), .val (.int p6), .val (.int (f0_v6 p4)), .val (.int (f0_v16 p5)), .val (.int (f0_s0_31 p6)), .val (.int (f0_s0_45 p6)), .val (.int (f0_v54 p6)), .val (.long (f0_s0_78 p5)), .second, .val (.int (p2.toInt8.toInt32)), .val (.int (p2.toUInt32.toUInt16.toUInt32.toInt32)), .val (.int (p3 &&& (65535 : Int32))), .val (.int ((f0_s0_113 p3).toUInt32.toUInt16.toUInt32.toInt32)), .val (.ref b7), .val (.ref b15), .unset, .unset, .unset, .unset, .unset] [])) _
    refine XS.aload X195.here hx rfl (hb hby at_293) rfl rfl ?_
    show Steps p.tables e below (T195.setTop (mkF m 295 #[.val (.long q1), .second, .val (.int p2), .val (.int p3), .val (.int p4), .val (.int p5), .val (.int p6), .val (.int (f0_v6 p4)), .val (.int (f0_v16 p5)), .val (.int (f0_s0_31 p6)), .val (.int (f0_s0_45 p6)), .val (.int (f0_v54 p6)), .val (.long (f0_s0_78 p5)), .second, .val (.int (p2.toInt8.toInt32)), .val (.int (p2.toUInt32.toUInt16.toUInt32.toInt32)), .val (.int (p3 &&& (65535 : Int32))), .val (.int ((f0_s0_113 p3).toUInt32.toUInt16.toUInt32.toInt32)), .val (.ref b7), .val (.ref b15), .unset, .unset, .unset, .unset, .unset] [(.ref b7)])) _
    refine XS.iload X195.here hx rfl (hb hby at_295) rfl ?_
    show Steps p.tables e below (T195.setTop (mkF m 297 #[.val (.long q1), .second, .val (.int p2), .val (.int p3), .val (.int p4), .val (.int p5), .val (.int p6), .val (.int (f0_v6 p4)), .val (.int (f0_v16 p5)), .val (.int (f0_s0_31 p6)), .val (.int (f0_s0_45 p6)), .val (.int (f0_v54 p6)), .val (.long (f0_s0_78 p5)), .second, .val (.int (p2.toInt8.toInt32)), .val (.int (p2.toUInt32.toUInt16.toUInt32.toInt32)), .val (.int (p3 &&& (65535 : Int32))), .val (.int ((f0_s0_113 p3).toUInt32.toUInt16.toUInt32.toInt32)), .val (.ref b7), .val (.ref b15), .unset, .unset, .unset, .unset, .unset] [(.int (f0_v6 p4)), (.ref b7)])) _
    refine XS.bipush X195.here hx rfl (hb hby at_297) ?_
    show Steps p.tables e below (T195.setTop (mkF m 299 #[.val (.long q1), .second, .val (.int p2), .val (.int p3), .val (.int p4), .val (.int p5), .val (.int p6), .val (.int (f0_v6 p4)), .val (.int (f0_v16 p5)), .val (.int (f0_s0_31 p6)), .val (.int (f0_s0_45 p6)), .val (.int (f0_v54 p6)), .val (.long (f0_s0_78 p5)), .second, .val (.int (p2.toInt8.toInt32)), .val (.int (p2.toUInt32.toUInt16.toUInt32.toInt32)), .val (.int (p3 &&& (65535 : Int32))), .val (.int ((f0_s0_113 p3).toUInt32.toUInt16.toUInt32.toInt32)), .val (.ref b7), .val (.ref b15), .unset, .unset, .unset, .unset, .unset] [(.int (6 : Int32)), (.int (f0_v6 p4)), (.ref b7)])) _
    refine XS.iadd X195.here hx rfl (hb hby at_299) rfl ?_
    show Steps p.tables e below (T195.setTop (mkF m 300 #[.val (.long q1), .second, .val (.int p2), .val (.int p3), .val (.int p4), .val (.int p5), .val (.int p6), .val (.int (f0_v6 p4)), .val (.int (f0_v16 p5)), .val (.int (f0_s0_31 p6)), .val (.int (f0_s0_45 p6)), .val (.int (f0_v54 p6)), .val (.long (f0_s0_78 p5)), .second, .val (.int (p2.toInt8.toInt32)), .val (.int (p2.toUInt32.toUInt16.toUInt32.toInt32)), .val (.int (p3 &&& (65535 : Int32))), .val (.int ((f0_s0_113 p3).toUInt32.toUInt16.toUInt32.toInt32)), .val (.ref b7), .val (.ref b15), .unset, .unset, .unset, .unset, .unset] [(.int ((f0_v6 p4) + (6 : Int32))), (.ref b7)])) _
    refine XS.lloadN X195.here hx rfl (hb hby at_300) rfl ?_
    show Steps p.tables e below (T195.setTop (mkF m 301 #[.val (.long q1), .second, .val (.int p2), .val (.int p3), .val (.int p4), .val (.int p5), .val (.int p6), .val (.int (f0_v6 p4)), .val (.int (f0_v16 p5)), .val (.int (f0_s0_31 p6)), .val (.int (f0_s0_45 p6)), .val (.int (f0_v54 p6)), .val (.long (f0_s0_78 p5)), .second, .val (.int (p2.toInt8.toInt32)), .val (.int (p2.toUInt32.toUInt16.toUInt32.toInt32)), .val (.int (p3 &&& (65535 : Int32))), .val (.int ((f0_s0_113 p3).toUInt32.toUInt16.toUInt32.toInt32)), .val (.ref b7), .val (.ref b15), .unset, .unset, .unset, .unset, .unset] [(.long q1), (.int ((f0_v6 p4) + (6 : Int32))), (.ref b7)])) _
    refine XS.bipush X195.here hx rfl (hb hby at_301) ?_
    show Steps p.tables e below (T195.setTop (mkF m 303 #[.val (.long q1), .second, .val (.int p2), .val (.int p3), .val (.int p4), .val (.int p5), .val (.int p6), .val (.int (f0_v6 p4)), .val (.int (f0_v16 p5)), .val (.int (f0_s0_31 p6)), .val (.int (f0_s0_45 p6)), .val (.int (f0_v54 p6)), .val (.long (f0_s0_78 p5)), .second, .val (.int (p2.toInt8.toInt32)), .val (.int (p2.toUInt32.toUInt16.toUInt32.toInt32)), .val (.int (p3 &&& (65535 : Int32))), .val (.int ((f0_s0_113 p3).toUInt32.toUInt16.toUInt32.toInt32)), .val (.ref b7), .val (.ref b15), .unset, .unset, .unset, .unset, .unset] [(.int (48 : Int32)), (.long q1), (.int ((f0_v6 p4) + (6 : Int32))), (.ref b7)])) _
    refine XS.lushr X195.here hx rfl (hb hby at_303) rfl ?_
    show Steps p.tables e below (T195.setTop (mkF m 304 #[.val (.long q1), .second, .val (.int p2), .val (.int p3), .val (.int p4), .val (.int p5), .val (.int p6), .val (.int (f0_v6 p4)), .val (.int (f0_v16 p5)), .val (.int (f0_s0_31 p6)), .val (.int (f0_s0_45 p6)), .val (.int (f0_v54 p6)), .val (.long (f0_s0_78 p5)), .second, .val (.int (p2.toInt8.toInt32)), .val (.int (p2.toUInt32.toUInt16.toUInt32.toInt32)), .val (.int (p3 &&& (65535 : Int32))), .val (.int ((f0_s0_113 p3).toUInt32.toUInt16.toUInt32.toInt32)), .val (.ref b7), .val (.ref b15), .unset, .unset, .unset, .unset, .unset] [(.long ((q1.toUInt64 >>> ((48 : Int32) &&& 0x3f).toInt64.toUInt64).toInt64)), (.int ((f0_v6 p4) + (6 : Int32))), (.ref b7)])) _
    refine XS.l2i X195.here hx rfl (hb hby at_304) rfl ?_
    show Steps p.tables e below (T195.setTop (mkF m 305 #[.val (.long q1), .second, .val (.int p2), .val (.int p3), .val (.int p4), .val (.int p5), .val (.int p6), .val (.int (f0_v6 p4)), .val (.int (f0_v16 p5)), .val (.int (f0_s0_31 p6)), .val (.int (f0_s0_45 p6)), .val (.int (f0_v54 p6)), .val (.long (f0_s0_78 p5)), .second, .val (.int (p2.toInt8.toInt32)), .val (.int (p2.toUInt32.toUInt16.toUInt32.toInt32)), .val (.int (p3 &&& (65535 : Int32))), .val (.int ((f0_s0_113 p3).toUInt32.toUInt16.toUInt32.toInt32)), .val (.ref b7), .val (.ref b15), .unset, .unset, .unset, .unset, .unset] [(.int (((q1.toUInt64 >>> ((48 : Int32) &&& 0x3f).toInt64.toUInt64).toInt64).toInt32)), (.int ((f0_v6 p4) + (6 : Int32))), (.ref b7)])) _
    refine XS.i2b X195.here hx rfl (hb hby at_305) rfl ?_
    show Steps p.tables e below (T195.setTop (mkF m 306 #[.val (.long q1), .second, .val (.int p2), .val (.int p3), .val (.int p4), .val (.int p5), .val (.int p6), .val (.int (f0_v6 p4)), .val (.int (f0_v16 p5)), .val (.int (f0_s0_31 p6)), .val (.int (f0_s0_45 p6)), .val (.int (f0_v54 p6)), .val (.long (f0_s0_78 p5)), .second, .val (.int (p2.toInt8.toInt32)), .val (.int (p2.toUInt32.toUInt16.toUInt32.toInt32)), .val (.int (p3 &&& (65535 : Int32))), .val (.int ((f0_s0_113 p3).toUInt32.toUInt16.toUInt32.toInt32)), .val (.ref b7), .val (.ref b15), .unset, .unset, .unset, .unset, .unset] [(.int ((((q1.toUInt64 >>> ((48 : Int32) &&& 0x3f).toInt64.toUInt64).toInt64).toInt32).toInt8.toInt32)), (.int ((f0_v6 p4) + (6 : Int32))), (.ref b7)])) _
    refine st204 _ ?_
    show Steps p.tables e below (T204.setTop (mkF m 307 #[.val (.long q1), .second, .val (.int p2), .val (.int p3), .val (.int p4), .val (.int p5), .val (.int p6), .val (.int (f0_v6 p4)), .val (.int (f0_v16 p5)), .val (.int (f0_s0_31 p6)), .val (.int (f0_s0_45 p6)), .val (.int (f0_v54 p6)), .val (.long (f0_s0_78 p5)), .second, .val (.int (p2.toInt8.toInt32)), .val (.int (p2.toUInt32.toUInt16.toUInt32.toInt32)), .val (.int (p3 &&& (65535 : Int32))), .val (.int ((f0_s0_113 p3).toUInt32.toUInt16.toUInt32.toInt32)), .val (.ref b7), .val (.ref b15), .unset, .unset, .unset, .unset, .unset] [])) _
    refine XS.aload X204.here hx rfl (hb hby at_307) rfl rfl ?_
    show Steps p.tables e below (T204.setTop (mkF m 309 #[.val (.long q1), .second, .val (.int p2), .val (.int p3), .val (.int p4), .val (.int p5), .val (.int p6), .val (.int (f0_v6 p4)), .val (.int (f0_v16 p5)), .val (.int (f0_s0_31 p6)), .val (.int (f0_s0_45 p6)), .val (.int (f0_v54 p6)), .val (.long (f0_s0_78 p5)), .second, .val (.int (p2.toInt8.toInt32)), .val (.int (p2.toUInt32.toUInt16.toUInt32.toInt32)), .val (.int (p3 &&& (65535 : Int32))), .val (.int ((f0_s0_113 p3).toUInt32.toUInt16.toUInt32.toInt32)), .val (.ref b7), .val (.ref b15), .unset, .unset, .unset, .unset, .unset] [(.ref b7)])) _
    refine XS.iload X204.here hx rfl (hb hby at_309) rfl ?_
    show Steps p.tables e below (T204.setTop (mkF m 311 #[.val (.long q1), .second, .val (.int p2), .val (.int p3), .val (.int p4), .val (.int p5), .val (.int p6), .val (.int (f0_v6 p4)), .val (.int (f0_v16 p5)), .val (.int (f0_s0_31 p6)), .val (.int (f0_s0_45 p6)), .val (.int (f0_v54 p6)), .val (.long (f0_s0_78 p5)), .second, .val (.int (p2.toInt8.toInt32)), .val (.int (p2.toUInt32.toUInt16.toUInt32.toInt32)), .val (.int (p3 &&& (65535 : Int32))), .val (.int ((f0_s0_113 p3).toUInt32.toUInt16.toUInt32.toInt32)), .val (.ref b7), .val (.ref b15), .unset, .unset, .unset, .unset, .unset] [(.int (f0_v6 p4)), (.ref b7)])) _
    refine XS.bipush X204.here hx rfl (hb hby at_311) ?_
    show Steps p.tables e below (T204.setTop (mkF m 313 #[.val (.long q1), .second, .val (.int p2), .val (.int p3), .val (.int p4), .val (.int p5), .val (.int p6), .val (.int (f0_v6 p4)), .val (.int (f0_v16 p5)), .val (.int (f0_s0_31 p6)), .val (.int (f0_s0_45 p6)), .val (.int (f0_v54 p6)), .val (.long (f0_s0_78 p5)), .second, .val (.int (p2.toInt8.toInt32)), .val (.int (p2.toUInt32.toUInt16.toUInt32.toInt32)), .val (.int (p3 &&& (65535 : Int32))), .val (.int ((f0_s0_113 p3).toUInt32.toUInt16.toUInt32.toInt32)), .val (.ref b7), .val (.ref b15), .unset, .unset, .unset, .unset, .unset] [(.int (7 : Int32)), (.int (f0_v6 p4)), (.ref b7)])) _
    refine XS.iadd X204.here hx rfl (hb hby at_313) rfl ?_
    show Steps p.tables e below (T204.setTop (mkF m 314 #[.val (.long q1), .second, .val (.int p2), .val (.int p3), .val (.int p4), .val (.int p5), .val (.int p6), .val (.int (f0_v6 p4)), .val (.int (f0_v16 p5)), .val (.int (f0_s0_31 p6)), .val (.int (f0_s0_45 p6)), .val (.int (f0_v54 p6)), .val (.long (f0_s0_78 p5)), .second, .val (.int (p2.toInt8.toInt32)), .val (.int (p2.toUInt32.toUInt16.toUInt32.toInt32)), .val (.int (p3 &&& (65535 : Int32))), .val (.int ((f0_s0_113 p3).toUInt32.toUInt16.toUInt32.toInt32)), .val (.ref b7), .val (.ref b15), .unset, .unset, .unset, .unset, .unset] [(.int ((f0_v6 p4) + (7 : Int32))), (.ref b7)])) _
    refine XS.lloadN X204.here hx rfl (hb hby at_314) rfl ?_
    show Steps p.tables e below (T204.setTop (mkF m 315 #[.val (.long q1), .second, .val (.int p2), .val (.int p3), .val (.int p4), .val (.int p5), .val (.int p6), .val (.int (f0_v6 p4)), .val (.int (f0_v16 p5)), .val (.int (f0_s0_31 p6)), .val (.int (f0_s0_45 p6)), .val (.int (f0_v54 p6)), .val (.long (f0_s0_78 p5)), .second, .val (.int (p2.toInt8.toInt32)), .val (.int (p2.toUInt32.toUInt16.toUInt32.toInt32)), .val (.int (p3 &&& (65535 : Int32))), .val (.int ((f0_s0_113 p3).toUInt32.toUInt16.toUInt32.toInt32)), .val (.ref b7), .val (.ref b15), .unset, .unset, .unset, .unset, .unset] [(.long q1), (.int ((f0_v6 p4) + (7 : Int32))), (.ref b7)])) _
    refine XS.bipush X204.here hx rfl (hb hby at_315) ?_
    show Steps p.tables e below (T204.setTop (mkF m 317 #[.val (.long q1), .second, .val (.int p2), .val (.int p3), .val (.int p4), .val (.int p5), .val (.int p6), .val (.int (f0_v6 p4)), .val (.int (f0_v16 p5)), .val (.int (f0_s0_31 p6)), .val (.int (f0_s0_45 p6)), .val (.int (f0_v54 p6)), .val (.long (f0_s0_78 p5)), .second, .val (.int (p2.toInt8.toInt32)), .val (.int (p2.toUInt32.toUInt16.toUInt32.toInt32)), .val (.int (p3 &&& (65535 : Int32))), .val (.int ((f0_s0_113 p3).toUInt32.toUInt16.toUInt32.toInt32)), .val (.ref b7), .val (.ref b15), .unset, .unset, .unset, .unset, .unset] [(.int (56 : Int32)), (.long q1), (.int ((f0_v6 p4) + (7 : Int32))), (.ref b7)])) _
    refine XS.lushr X204.here hx rfl (hb hby at_317) rfl ?_
    show Steps p.tables e below (T204.setTop (mkF m 318 #[.val (.long q1), .second, .val (.int p2), .val (.int p3), .val (.int p4), .val (.int p5), .val (.int p6), .val (.int (f0_v6 p4)), .val (.int (f0_v16 p5)), .val (.int (f0_s0_31 p6)), .val (.int (f0_s0_45 p6)), .val (.int (f0_v54 p6)), .val (.long (f0_s0_78 p5)), .second, .val (.int (p2.toInt8.toInt32)), .val (.int (p2.toUInt32.toUInt16.toUInt32.toInt32)), .val (.int (p3 &&& (65535 : Int32))), .val (.int ((f0_s0_113 p3).toUInt32.toUInt16.toUInt32.toInt32)), .val (.ref b7), .val (.ref b15), .unset, .unset, .unset, .unset, .unset] [(.long ((q1.toUInt64 >>> ((56 : Int32) &&& 0x3f).toInt64.toUInt64).toInt64)), (.int ((f0_v6 p4) + (7 : Int32))), (.ref b7)])) _
    refine XS.l2i X204.here hx rfl (hb hby at_318) rfl ?_
    show Steps p.tables e below (T204.setTop (mkF m 319 #[.val (.long q1), .second, .val (.int p2), .val (.int p3), .val (.int p4), .val (.int p5), .val (.int p6), .val (.int (f0_v6 p4)), .val (.int (f0_v16 p5)), .val (.int (f0_s0_31 p6)), .val (.int (f0_s0_45 p6)), .val (.int (f0_v54 p6)), .val (.long (f0_s0_78 p5)), .second, .val (.int (p2.toInt8.toInt32)), .val (.int (p2.toUInt32.toUInt16.toUInt32.toInt32)), .val (.int (p3 &&& (65535 : Int32))), .val (.int ((f0_s0_113 p3).toUInt32.toUInt16.toUInt32.toInt32)), .val (.ref b7), .val (.ref b15), .unset, .unset, .unset, .unset, .unset] [(.int (((q1.toUInt64 >>> ((56 : Int32) &&& 0x3f).toInt64.toUInt64).toInt64).toInt32)), (.int ((f0_v6 p4) + (7 : Int32))), (.ref b7)])) _
    refine XS.i2b X204.here hx rfl (hb hby at_319) rfl ?_
    show Steps p.tables e below (T204.setTop (mkF m 320 #[.val (.long q1), .second, .val (.int p2), .val (.int p3), .val (.int p4), .val (.int p5), .val (.int p6), .val (.int (f0_v6 p4)), .val (.int (f0_v16 p5)), .val (.int (f0_s0_31 p6)), .val (.int (f0_s0_45 p6)), .val (.int (f0_v54 p6)), .val (.long (f0_s0_78 p5)), .second, .val (.int (p2.toInt8.toInt32)), .val (.int (p2.toUInt32.toUInt16.toUInt32.toInt32)), .val (.int (p3 &&& (65535 : Int32))), .val (.int ((f0_s0_113 p3).toUInt32.toUInt16.toUInt32.toInt32)), .val (.ref b7), .val (.ref b15), .unset, .unset, .unset, .unset, .unset] [(.int ((((q1.toUInt64 >>> ((56 : Int32) &&& 0x3f).toInt64.toUInt64).toInt64).toInt32).toInt8.toInt32)), (.int ((f0_v6 p4) + (7 : Int32))), (.ref b7)])) _
    refine st213 _ ?_
    show Steps p.tables e below (T213.setTop (mkF m 321 #[.val (.long q1), .second, .val (.int p2), .val (.int p3), .val (.int p4), .val (.int p5), .val (.int p6), .val (.int (f0_v6 p4)), .val (.int (f0_v16 p5)), .val (.int (f0_s0_31 p6)), .val (.int (f0_s0_45 p6)), .val (.int (f0_v54 p6)), .val (.long (f0_s0_78 p5)), .second, .val (.int (p2.toInt8.toInt32)), .val (.int (p2.toUInt32.toUInt16.toUInt32.toInt32)), .val (.int (p3 &&& (65535 : Int32))), .val (.int ((f0_s0_113 p3).toUInt32.toUInt16.toUInt32.toInt32)), .val (.ref b7), .val (.ref b15), .unset, .unset, .unset, .unset, .unset] [])) _
    refine XS.aload X213.here hx rfl (hb hby at_321) rfl rfl ?_
    show Steps p.tables e below (T213.setTop (mkF m 323 #[.val (.long q1), .second, .val (.int p2), .val (.int p3), .val (.int p4), .val (.int p5), .val (.int p6), .val (.int (f0_v6 p4)), .val (.int (f0_v16 p5)), .val (.int (f0_s0_31 p6)), .val (.int (f0_s0_45 p6)), .val (.int (f0_v54 p6)), .val (.long (f0_s0_78 p5)), .second, .val (.int (p2.toInt8.toInt32)), .val (.int (p2.toUInt32.toUInt16.toUInt32.toInt32)), .val (.int (p3 &&& (65535 : Int32))), .val (.int ((f0_s0_113 p3).toUInt32.toUInt16.toUInt32.toInt32)), .val (.ref b7), .val (.ref b15), .unset, .unset, .unset, .unset, .unset] [(.ref b15)])) _
    refine XS.iload X213.here hx rfl (hb hby at_323) rfl ?_
    show Steps p.tables e below (T213.setTop (mkF m 325 #[.val (.long q1), .second, .val (.int p2), .val (.int p3), .val (.int p4), .val (.int p5), .val (.int p6), .val (.int (f0_v6 p4)), .val (.int (f0_v16 p5)), .val (.int (f0_s0_31 p6)), .val (.int (f0_s0_45 p6)), .val (.int (f0_v54 p6)), .val (.long (f0_s0_78 p5)), .second, .val (.int (p2.toInt8.toInt32)), .val (.int (p2.toUInt32.toUInt16.toUInt32.toInt32)), .val (.int (p3 &&& (65535 : Int32))), .val (.int ((f0_s0_113 p3).toUInt32.toUInt16.toUInt32.toInt32)), .val (.ref b7), .val (.ref b15), .unset, .unset, .unset, .unset, .unset] [(.int (f0_v6 p4)), (.ref b15)])) _
    refine XS.lloadN X213.here hx rfl (hb hby at_325) rfl ?_
    show Steps p.tables e below (T213.setTop (mkF m 326 #[.val (.long q1), .second, .val (.int p2), .val (.int p3), .val (.int p4), .val (.int p5), .val (.int p6), .val (.int (f0_v6 p4)), .val (.int (f0_v16 p5)), .val (.int (f0_s0_31 p6)), .val (.int (f0_s0_45 p6)), .val (.int (f0_v54 p6)), .val (.long (f0_s0_78 p5)), .second, .val (.int (p2.toInt8.toInt32)), .val (.int (p2.toUInt32.toUInt16.toUInt32.toInt32)), .val (.int (p3 &&& (65535 : Int32))), .val (.int ((f0_s0_113 p3).toUInt32.toUInt16.toUInt32.toInt32)), .val (.ref b7), .val (.ref b15), .unset, .unset, .unset, .unset, .unset] [(.long q1), (.int (f0_v6 p4)), (.ref b15)])) _
    refine X213.ldc2Long hx hown (mvT hZ (hw _ (List.mem_of_getElem? (i := 4) rfl))) (g := (mkF m 326 #[.val (.long q1), .second, .val (.int p2), .val (.int p3), .val (.int p4), .val (.int p5), .val (.int p6), .val (.int (f0_v6 p4)), .val (.int (f0_v16 p5)), .val (.int (f0_s0_31 p6)), .val (.int (f0_s0_45 p6)), .val (.int (f0_v54 p6)), .val (.long (f0_s0_78 p5)), .second, .val (.int (p2.toInt8.toInt32)), .val (.int (p2.toUInt32.toUInt16.toUInt32.toInt32)), .val (.int (p3 &&& (65535 : Int32))), .val (.int ((f0_s0_113 p3).toUInt32.toUInt16.toUInt32.toInt32)), .val (.ref b7), .val (.ref b15), .unset, .unset, .unset, .unset, .unset] [(.long q1), (.int (f0_v6 p4)), (.ref b15)])) rfl (hb hby at_326) _ ?_
    show Steps p.tables e below (T213.setTop (mkF m 329 #[.val (.long q1), .second, .val (.int p2), .val (.int p3), .val (.int p4), .val (.int p5), .val (.int p6), .val (.int (f0_v6 p4)), .val (.int (f0_v16 p5)), .val (.int (f0_s0_31 p6)), .val (.int (f0_s0_45 p6)), .val (.int (f0_v54 p6)), .val (.long (f0_s0_78 p5)), .second, .val (.int (p2.toInt8.toInt32)), .val (.int (p2.toUInt32.toUInt16.toUInt32.toInt32)), .val (.int (p3 &&& (65535 : Int32))), .val (.int ((f0_s0_113 p3).toUInt32.toUInt16.toUInt32.toInt32)), .val (.ref b7), .val (.ref b15), .unset, .unset, .unset, .unset, .unset] [(.long (127 : Int64)), (.long q1), (.int (f0_v6 p4)), (.ref b15)])) _
    refine XS.land X213.here hx rfl (hb hby at_329) rfl ?_
    show Steps p.tables e below (T213.setTop (mkF m 330 #[.val (.long q1), .second, .val (.int p2), .val (.int p3), .val (.int p4), .val (.int p5), .val (.int p6), .val (.int (f0_v6 p4)), .val (.int (f0_v16 p5)), .val (.int (f0_s0_31 p6)), .val (.int (f0_s0_45 p6)), .val (.int (f0_v54 p6)), .val (.long (f0_s0_78 p5)), .second, .val (.int (p2.toInt8.toInt32)), .val (.int (p2.toUInt32.toUInt16.toUInt32.toInt32)), .val (.int (p3 &&& (65535 : Int32))), .val (.int ((f0_s0_113 p3).toUInt32.toUInt16.toUInt32.toInt32)), .val (.ref b7), .val (.ref b15), .unset, .unset, .unset, .unset, .unset] [(.long (q1 &&& (127 : Int64))), (.int (f0_v6 p4)), (.ref b15)])) _
    refine XS.l2i X213.here hx rfl (hb hby at_330) rfl ?_
    show Steps p.tables e below (T213.setTop (mkF m 331 #[.val (.long q1), .second, .val (.int p2), .val (.int p3), .val (.int p4), .val (.int p5), .val (.int p6), .val (.int (f0_v6 p4)), .val (.int (f0_v16 p5)), .val (.int (f0_s0_31 p6)), .val (.int (f0_s0_45 p6)), .val (.int (f0_v54 p6)), .val (.long (f0_s0_78 p5)), .second, .val (.int (p2.toInt8.toInt32)), .val (.int (p2.toUInt32.toUInt16.toUInt32.toInt32)), .val (.int (p3 &&& (65535 : Int32))), .val (.int ((f0_s0_113 p3).toUInt32.toUInt16.toUInt32.toInt32)), .val (.ref b7), .val (.ref b15), .unset, .unset, .unset, .unset, .unset] [(.int ((q1 &&& (127 : Int64)).toInt32)), (.int (f0_v6 p4)), (.ref b15)])) _
    refine XS.i2c X213.here hx rfl (hb hby at_331) rfl ?_
    show Steps p.tables e below (T213.setTop (mkF m 332 #[.val (.long q1), .second, .val (.int p2), .val (.int p3), .val (.int p4), .val (.int p5), .val (.int p6), .val (.int (f0_v6 p4)), .val (.int (f0_v16 p5)), .val (.int (f0_s0_31 p6)), .val (.int (f0_s0_45 p6)), .val (.int (f0_v54 p6)), .val (.long (f0_s0_78 p5)), .second, .val (.int (p2.toInt8.toInt32)), .val (.int (p2.toUInt32.toUInt16.toUInt32.toInt32)), .val (.int (p3 &&& (65535 : Int32))), .val (.int ((f0_s0_113 p3).toUInt32.toUInt16.toUInt32.toInt32)), .val (.ref b7), .val (.ref b15), .unset, .unset, .unset, .unset, .unset] [(.int (((q1 &&& (127 : Int64)).toInt32).toUInt32.toUInt16.toUInt32.toInt32)), (.int (f0_v6 p4)), (.ref b15)])) _
    refine st222 _ ?_
    show Steps p.tables e below (T222.setTop (mkF m 333 #[.val (.long q1), .second, .val (.int p2), .val (.int p3), .val (.int p4), .val (.int p5), .val (.int p6), .val (.int (f0_v6 p4)), .val (.int (f0_v16 p5)), .val (.int (f0_s0_31 p6)), .val (.int (f0_s0_45 p6)), .val (.int (f0_v54 p6)), .val (.long (f0_s0_78 p5)), .second, .val (.int (p2.toInt8.toInt32)), .val (.int (p2.toUInt32.toUInt16.toUInt32.toInt32)), .val (.int (p3 &&& (65535 : Int32))), .val (.int ((f0_s0_113 p3).toUInt32.toUInt16.toUInt32.toInt32)), .val (.ref b7), .val (.ref b15), .unset, .unset, .unset, .unset, .unset] [])) _
    refine XS.aload X222.here hx rfl (hb hby at_333) rfl rfl ?_
    show Steps p.tables e below (T222.setTop (mkF m 335 #[.val (.long q1), .second, .val (.int p2), .val (.int p3), .val (.int p4), .val (.int p5), .val (.int p6), .val (.int (f0_v6 p4)), .val (.int (f0_v16 p5)), .val (.int (f0_s0_31 p6)), .val (.int (f0_s0_45 p6)), .val (.int (f0_v54 p6)), .val (.long (f0_s0_78 p5)), .second, .val (.int (p2.toInt8.toInt32)), .val (.int (p2.toUInt32.toUInt16.toUInt32.toInt32)), .val (.int (p3 &&& (65535 : Int32))), .val (.int ((f0_s0_113 p3).toUInt32.toUInt16.toUInt32.toInt32)), .val (.ref b7), .val (.ref b15), .unset, .unset, .unset, .unset, .unset] [(.ref b15)])) _
    refine XS.iload X222.here hx rfl (hb hby at_335) rfl ?_
    show Steps p.tables e below (T222.setTop (mkF m 337 #[.val (.long q1), .second, .val (.int p2), .val (.int p3), .val (.int p4), .val (.int p5), .val (.int p6), .val (.int (f0_v6 p4)), .val (.int (f0_v16 p5)), .val (.int (f0_s0_31 p6)), .val (.int (f0_s0_45 p6)), .val (.int (f0_v54 p6)), .val (.long (f0_s0_78 p5)), .second, .val (.int (p2.toInt8.toInt32)), .val (.int (p2.toUInt32.toUInt16.toUInt32.toInt32)), .val (.int (p3 &&& (65535 : Int32))), .val (.int ((f0_s0_113 p3).toUInt32.toUInt16.toUInt32.toInt32)), .val (.ref b7), .val (.ref b15), .unset, .unset, .unset, .unset, .unset] [(.int (f0_v6 p4)), (.ref b15)])) _
    refine XS.iconst X222.here hx rfl (hb hby at_337) ?_
    show Steps p.tables e below (T222.setTop (mkF m 338 #[.val (.long q1), .second, .val (.int p2), .val (.int p3), .val (.int p4), .val (.int p5), .val (.int p6), .val (.int (f0_v6 p4)), .val (.int (f0_v16 p5)), .val (.int (f0_s0_31 p6)), .val (.int (f0_s0_45 p6)), .val (.int (f0_v54 p6)), .val (.long (f0_s0_78 p5)), .second, .val (.int (p2.toInt8.toInt32)), .val (.int (p2.toUInt32.toUInt16.toUInt32.toInt32)), .val (.int (p3 &&& (65535 : Int32))), .val (.int ((f0_s0_113 p3).toUInt32.toUInt16.toUInt32.toInt32)), .val (.ref b7), .val (.ref b15), .unset, .unset, .unset, .unset, .unset] [(.int (1 : Int32)), (.int (f0_v6 p4)), (.ref b15)])) _
    refine XS.iadd X222.here hx rfl (hb hby at_338) rfl ?_
    show Steps p.tables e below (T222.setTop (mkF m 339 #[.val (.long q1), .second, .val (.int p2), .val (.int p3), .val (.int p4), .val (.int p5), .val (.int p6), .val (.int (f0_v6 p4)), .val (.int (f0_v16 p5)), .val (.int (f0_s0_31 p6)), .val (.int (f0_s0_45 p6)), .val (.int (f0_v54 p6)), .val (.long (f0_s0_78 p5)), .second, .val (.int (p2.toInt8.toInt32)), .val (.int (p2.toUInt32.toUInt16.toUInt32.toInt32)), .val (.int (p3 &&& (65535 : Int32))), .val (.int ((f0_s0_113 p3).toUInt32.toUInt16.toUInt32.toInt32)), .val (.ref b7), .val (.ref b15), .unset, .unset, .unset, .unset, .unset] [(.int ((f0_v6 p4) + (1 : Int32))), (.ref b15)])) _
    refine XS.lloadN X222.here hx rfl (hb hby at_339) rfl ?_
    show Steps p.tables e below (T222.setTop (mkF m 340 #[.val (.long q1), .second, .val (.int p2), .val (.int p3), .val (.int p4), .val (.int p5), .val (.int p6), .val (.int (f0_v6 p4)), .val (.int (f0_v16 p5)), .val (.int (f0_s0_31 p6)), .val (.int (f0_s0_45 p6)), .val (.int (f0_v54 p6)), .val (.long (f0_s0_78 p5)), .second, .val (.int (p2.toInt8.toInt32)), .val (.int (p2.toUInt32.toUInt16.toUInt32.toInt32)), .val (.int (p3 &&& (65535 : Int32))), .val (.int ((f0_s0_113 p3).toUInt32.toUInt16.toUInt32.toInt32)), .val (.ref b7), .val (.ref b15), .unset, .unset, .unset, .unset, .unset] [(.long q1), (.int ((f0_v6 p4) + (1 : Int32))), (.ref b15)])) _
    refine XS.bipush X222.here hx rfl (hb hby at_340) ?_
    show Steps p.tables e below (T222.setTop (mkF m 342 #[.val (.long q1), .second, .val (.int p2), .val (.int p3), .val (.int p4), .val (.int p5), .val (.int p6), .val (.int (f0_v6 p4)), .val (.int (f0_v16 p5)), .val (.int (f0_s0_31 p6)), .val (.int (f0_s0_45 p6)), .val (.int (f0_v54 p6)), .val (.long (f0_s0_78 p5)), .second, .val (.int (p2.toInt8.toInt32)), .val (.int (p2.toUInt32.toUInt16.toUInt32.toInt32)), .val (.int (p3 &&& (65535 : Int32))), .val (.int ((f0_s0_113 p3).toUInt32.toUInt16.toUInt32.toInt32)), .val (.ref b7), .val (.ref b15), .unset, .unset, .unset, .unset, .unset] [(.int (8 : Int32)), (.long q1), (.int ((f0_v6 p4) + (1 : Int32))), (.ref b15)])) _
    refine XS.lushr X222.here hx rfl (hb hby at_342) rfl ?_
    show Steps p.tables e below (T222.setTop (mkF m 343 #[.val (.long q1), .second, .val (.int p2), .val (.int p3), .val (.int p4), .val (.int p5), .val (.int p6), .val (.int (f0_v6 p4)), .val (.int (f0_v16 p5)), .val (.int (f0_s0_31 p6)), .val (.int (f0_s0_45 p6)), .val (.int (f0_v54 p6)), .val (.long (f0_s0_78 p5)), .second, .val (.int (p2.toInt8.toInt32)), .val (.int (p2.toUInt32.toUInt16.toUInt32.toInt32)), .val (.int (p3 &&& (65535 : Int32))), .val (.int ((f0_s0_113 p3).toUInt32.toUInt16.toUInt32.toInt32)), .val (.ref b7), .val (.ref b15), .unset, .unset, .unset, .unset, .unset] [(.long ((q1.toUInt64 >>> ((8 : Int32) &&& 0x3f).toInt64.toUInt64).toInt64)), (.int ((f0_v6 p4) + (1 : Int32))), (.ref b15)])) _
    refine X222.ldc2Long hx hown (mvT hZ (hw _ (List.mem_of_getElem? (i := 4) rfl))) (g := (mkF m 343 #[.val (.long q1), .second, .val (.int p2), .val (.int p3), .val (.int p4), .val (.int p5), .val (.int p6), .val (.int (f0_v6 p4)), .val (.int (f0_v16 p5)), .val (.int (f0_s0_31 p6)), .val (.int (f0_s0_45 p6)), .val (.int (f0_v54 p6)), .val (.long (f0_s0_78 p5)), .second, .val (.int (p2.toInt8.toInt32)), .val (.int (p2.toUInt32.toUInt16.toUInt32.toInt32)), .val (.int (p3 &&& (65535 : Int32))), .val (.int ((f0_s0_113 p3).toUInt32.toUInt16.toUInt32.toInt32)), .val (.ref b7), .val (.ref b15), .unset, .unset, .unset, .unset, .unset] [(.long ((q1.toUInt64 >>> ((8 : Int32) &&& 0x3f).toInt64.toUInt64).toInt64)), (.int ((f0_v6 p4) + (1 : Int32))), (.ref b15)])) rfl (hb hby at_343) _ ?_
    show Steps p.tables e below (T222.setTop (mkF m 346 #[.val (.long q1), .second, .val (.int p2), .val (.int p3), .val (.int p4), .val (.int p5), .val (.int p6), .val (.int (f0_v6 p4)), .val (.int (f0_v16 p5)), .val (.int (f0_s0_31 p6)), .val (.int (f0_s0_45 p6)), .val (.int (f0_v54 p6)), .val (.long (f0_s0_78 p5)), .second, .val (.int (p2.toInt8.toInt32)), .val (.int (p2.toUInt32.toUInt16.toUInt32.toInt32)), .val (.int (p3 &&& (65535 : Int32))), .val (.int ((f0_s0_113 p3).toUInt32.toUInt16.toUInt32.toInt32)), .val (.ref b7), .val (.ref b15), .unset, .unset, .unset, .unset, .unset] [(.long (127 : Int64)), (.long ((q1.toUInt64 >>> ((8 : Int32) &&& 0x3f).toInt64.toUInt64).toInt64)), (.int ((f0_v6 p4) + (1 : Int32))), (.ref b15)])) _
    refine XS.land X222.here hx rfl (hb hby at_346) rfl ?_
    show Steps p.tables e below (T222.setTop (mkF m 347 #[.val (.long q1), .second, .val (.int p2), .val (.int p3), .val (.int p4), .val (.int p5), .val (.int p6), .val (.int (f0_v6 p4)), .val (.int (f0_v16 p5)), .val (.int (f0_s0_31 p6)), .val (.int (f0_s0_45 p6)), .val (.int (f0_v54 p6)), .val (.long (f0_s0_78 p5)), .second, .val (.int (p2.toInt8.toInt32)), .val (.int (p2.toUInt32.toUInt16.toUInt32.toInt32)), .val (.int (p3 &&& (65535 : Int32))), .val (.int ((f0_s0_113 p3).toUInt32.toUInt16.toUInt32.toInt32)), .val (.ref b7), .val (.ref b15), .unset, .unset, .unset, .unset, .unset] [(.long (((q1.toUInt64 >>> ((8 : Int32) &&& 0x3f).toInt64.toUInt64).toInt64) &&& (127 : Int64))), (.int ((f0_v6 p4) + (1 : Int32))), (.ref b15)])) _
    refine XS.l2i X222.here hx rfl (hb hby at_347) rfl ?_
    show Steps p.tables e below (T222.setTop (mkF m 348 #[.val (.long q1), .second, .val (.int p2), .val (.int p3), .val (.int p4), .val (.int p5), .val (.int p6), .val (.int (f0_v6 p4)), .val (.int (f0_v16 p5)), .val (.int (f0_s0_31 p6)), .val (.int (f0_s0_45 p6)), .val (.int (f0_v54 p6)), .val (.long (f0_s0_78 p5)), .second, .val (.int (p2.toInt8.toInt32)), .val (.int (p2.toUInt32.toUInt16.toUInt32.toInt32)), .val (.int (p3 &&& (65535 : Int32))), .val (.int ((f0_s0_113 p3).toUInt32.toUInt16.toUInt32.toInt32)), .val (.ref b7), .val (.ref b15), .unset, .unset, .unset, .unset, .unset] [(.int ((((q1.toUInt64 >>> ((8 : Int32) &&& 0x3f).toInt64.toUInt64).toInt64) &&& (127 : Int64)).toInt32)), (.int ((f0_v6 p4) + (1 : Int32))), (.ref b15)])) _
    refine XS.i2c X222.here hx rfl (hb hby at_348) rfl ?_
    show Steps p.tables e below (T222.setTop (mkF m 349 #[.val (.long q1), .second, .val (.int p2), .val (.int p3), .val (.int p4), .val (.int p5), .val (.int p6), .val (.int (f0_v6 p4)), .val (.int (f0_v16 p5)), .val (.int (f0_s0_31 p6)), .val (.int (f0_s0_45 p6)), .val (.int (f0_v54 p6)), .val (.long (f0_s0_78 p5)), .second, .val (.int (p2.toInt8.toInt32)), .val (.int (p2.toUInt32.toUInt16.toUInt32.toInt32)), .val (.int (p3 &&& (65535 : Int32))), .val (.int ((f0_s0_113 p3).toUInt32.toUInt16.toUInt32.toInt32)), .val (.ref b7), .val (.ref b15), .unset, .unset, .unset, .unset, .unset] [(.int (((((q1.toUInt64 >>> ((8 : Int32) &&& 0x3f).toInt64.toUInt64).toInt64) &&& (127 : Int64)).toInt32).toUInt32.toUInt16.toUInt32.toInt32)), (.int ((f0_v6 p4) + (1 : Int32))), (.ref b15)])) _
    refine st231 _ ?_
    show Steps p.tables e below (T231.setTop (mkF m 350 #[.val (.long q1), .second, .val (.int p2), .val (.int p3), .val (.int p4), .val (.int p5), .val (.int p6), .val (.int (f0_v6 p4)), .val (.int (f0_v16 p5)), .val (.int (f0_s0_31 p6)), .val (.int (f0_s0_45 p6)), .val (.int (f0_v54 p6)), .val (.long (f0_s0_78 p5)), .second, .val (.int (p2.toInt8.toInt32)), .val (.int (p2.toUInt32.toUInt16.toUInt32.toInt32)), .val (.int (p3 &&& (65535 : Int32))), .val (.int ((f0_s0_113 p3).toUInt32.toUInt16.toUInt32.toInt32)), .val (.ref b7), .val (.ref b15), .unset, .unset, .unset, .unset, .unset] [])) _
    refine XS.aload X231.here hx rfl (hb hby at_350) rfl rfl ?_
    show Steps p.tables e below (T231.setTop (mkF m 352 #[.val (.long q1), .second, .val (.int p2), .val (.int p3), .val (.int p4), .val (.int p5), .val (.int p6), .val (.int (f0_v6 p4)), .val (.int (f0_v16 p5)), .val (.int (f0_s0_31 p6)), .val (.int (f0_s0_45 p6)), .val (.int (f0_v54 p6)), .val (.long (f0_s0_78 p5)), .second, .val (.int (p2.toInt8.toInt32)), .val (.int (p2.toUInt32.toUInt16.toUInt32.toInt32)), .val (.int (p3 &&& (65535 : Int32))), .val (.int ((f0_s0_113 p3).toUInt32.toUInt16.toUInt32.toInt32)), .val (.ref b7), .val (.ref b15), .unset, .unset, .unset, .unset, .unset] [(.ref b15)])) _
    refine XS.iload X231.here hx rfl (hb hby at_352) rfl ?_
    show Steps p.tables e below (T231.setTop (mkF m 354 #[.val (.long q1), .second, .val (.int p2), .val (.int p3), .val (.int p4), .val (.int p5), .val (.int p6), .val (.int (f0_v6 p4)), .val (.int (f0_v16 p5)), .val (.int (f0_s0_31 p6)), .val (.int (f0_s0_45 p6)), .val (.int (f0_v54 p6)), .val (.long (f0_s0_78 p5)), .second, .val (.int (p2.toInt8.toInt32)), .val (.int (p2.toUInt32.toUInt16.toUInt32.toInt32)), .val (.int (p3 &&& (65535 : Int32))), .val (.int ((f0_s0_113 p3).toUInt32.toUInt16.toUInt32.toInt32)), .val (.ref b7), .val (.ref b15), .unset, .unset, .unset, .unset, .unset] [(.int (f0_v6 p4)), (.ref b15)])) _
    refine XS.iconst X231.here hx rfl (hb hby at_354) ?_
    show Steps p.tables e below (T231.setTop (mkF m 355 #[.val (.long q1), .second, .val (.int p2), .val (.int p3), .val (.int p4), .val (.int p5), .val (.int p6), .val (.int (f0_v6 p4)), .val (.int (f0_v16 p5)), .val (.int (f0_s0_31 p6)), .val (.int (f0_s0_45 p6)), .val (.int (f0_v54 p6)), .val (.long (f0_s0_78 p5)), .second, .val (.int (p2.toInt8.toInt32)), .val (.int (p2.toUInt32.toUInt16.toUInt32.toInt32)), .val (.int (p3 &&& (65535 : Int32))), .val (.int ((f0_s0_113 p3).toUInt32.toUInt16.toUInt32.toInt32)), .val (.ref b7), .val (.ref b15), .unset, .unset, .unset, .unset, .unset] [(.int (2 : Int32)), (.int (f0_v6 p4)), (.ref b15)])) _
    refine XS.iadd X231.here hx rfl (hb hby at_355) rfl ?_
    show Steps p.tables e below (T231.setTop (mkF m 356 #[.val (.long q1), .second, .val (.int p2), .val (.int p3), .val (.int p4), .val (.int p5), .val (.int p6), .val (.int (f0_v6 p4)), .val (.int (f0_v16 p5)), .val (.int (f0_s0_31 p6)), .val (.int (f0_s0_45 p6)), .val (.int (f0_v54 p6)), .val (.long (f0_s0_78 p5)), .second, .val (.int (p2.toInt8.toInt32)), .val (.int (p2.toUInt32.toUInt16.toUInt32.toInt32)), .val (.int (p3 &&& (65535 : Int32))), .val (.int ((f0_s0_113 p3).toUInt32.toUInt16.toUInt32.toInt32)), .val (.ref b7), .val (.ref b15), .unset, .unset, .unset, .unset, .unset] [(.int ((f0_v6 p4) + (2 : Int32))), (.ref b15)])) _
    refine XS.lloadN X231.here hx rfl (hb hby at_356) rfl ?_
    show Steps p.tables e below (T231.setTop (mkF m 357 #[.val (.long q1), .second, .val (.int p2), .val (.int p3), .val (.int p4), .val (.int p5), .val (.int p6), .val (.int (f0_v6 p4)), .val (.int (f0_v16 p5)), .val (.int (f0_s0_31 p6)), .val (.int (f0_s0_45 p6)), .val (.int (f0_v54 p6)), .val (.long (f0_s0_78 p5)), .second, .val (.int (p2.toInt8.toInt32)), .val (.int (p2.toUInt32.toUInt16.toUInt32.toInt32)), .val (.int (p3 &&& (65535 : Int32))), .val (.int ((f0_s0_113 p3).toUInt32.toUInt16.toUInt32.toInt32)), .val (.ref b7), .val (.ref b15), .unset, .unset, .unset, .unset, .unset] [(.long q1), (.int ((f0_v6 p4) + (2 : Int32))), (.ref b15)])) _
    refine XS.bipush X231.here hx rfl (hb hby at_357) ?_
    show Steps p.tables e below (T231.setTop (mkF m 359 #[.val (.long q1), .second, .val (.int p2), .val (.int p3), .val (.int p4), .val (.int p5), .val (.int p6), .val (.int (f0_v6 p4)), .val (.int (f0_v16 p5)), .val (.int (f0_s0_31 p6)), .val (.int (f0_s0_45 p6)), .val (.int (f0_v54 p6)), .val (.long (f0_s0_78 p5)), .second, .val (.int (p2.toInt8.toInt32)), .val (.int (p2.toUInt32.toUInt16.toUInt32.toInt32)), .val (.int (p3 &&& (65535 : Int32))), .val (.int ((f0_s0_113 p3).toUInt32.toUInt16.toUInt32.toInt32)), .val (.ref b7), .val (.ref b15), .unset, .unset, .unset, .unset, .unset] [(.int (16 : Int32)), (.long q1), (.int ((f0_v6 p4) + (2 : Int32))), (.ref b15)])) _
    refine XS.lushr X231.here hx rfl (hb hby at_359) rfl ?_
    show Steps p.tables e below (T231.setTop (mkF m 360 #[.val (.long q1), .second, .val (.int p2), .val (.int p3), .val (.int p4), .val (.int p5), .val (.int p6), .val (.int (f0_v6 p4)), .val (.int (f0_v16 p5)), .val (.int (f0_s0_31 p6)), .val (.int (f0_s0_45 p6)), .val (.int (f0_v54 p6)), .val (.long (f0_s0_78 p5)), .second, .val (.int (p2.toInt8.toInt32)), .val (.int (p2.toUInt32.toUInt16.toUInt32.toInt32)), .val (.int (p3 &&& (65535 : Int32))), .val (.int ((f0_s0_113 p3).toUInt32.toUInt16.toUInt32.toInt32)), .val (.ref b7), .val (.ref b15), .unset, .unset, .unset, .unset, .unset] [(.long ((q1.toUInt64 >>> ((16 : Int32) &&& 0x3f).toInt64.toUInt64).toInt64)), (.int ((f0_v6 p4) + (2 : Int32))), (.ref b15)])) _
    refine X231.ldc2Long hx hown (mvT hZ (hw _ (List.mem_of_getElem? (i := 4) rfl))) (g := (mkF m 360 #[.val (.long q1), .second, .val (.int p2), .val (.int p3), .val (.int p4), .val (.int p5), .val (.int p6), .val (.int (f0_v6 p4)), .val (.int (f0_v16 p5)), .val (.int (f0_s0_31 p6)), .val (.int (f0_s0_45 p6)), .val (.int (f0_v54 p6)), .val (.long (f0_s0_78 p5)), .second, .val (.int (p2.toInt8.toInt32)), .val (.int (p2.toUInt32.toUInt16.toUInt32.toInt32)), .val (.int (p3 &&& (65535 : Int32))), .val (.int ((f0_s0_113 p3).toUInt32.toUInt16.toUInt32.toInt32)), .val (.ref b7), .val (.ref b15), .unset, .unset, .unset, .unset, .unset] [(.long ((q1.toUInt64 >>> ((16 : Int32) &&& 0x3f).toInt64.toUInt64).toInt64)), (.int ((f0_v6 p4) + (2 : Int32))), (.ref b15)])) rfl (hb hby at_360) _ ?_
    show Steps p.tables e below (T231.setTop (mkF m 363 #[.val (.long q1), .second, .val (.int p2), .val (.int p3), .val (.int p4), .val (.int p5), .val (.int p6), .val (.int (f0_v6 p4)), .val (.int (f0_v16 p5)), .val (.int (f0_s0_31 p6)), .val (.int (f0_s0_45 p6)), .val (.int (f0_v54 p6)), .val (.long (f0_s0_78 p5)), .second, .val (.int (p2.toInt8.toInt32)), .val (.int (p2.toUInt32.toUInt16.toUInt32.toInt32)), .val (.int (p3 &&& (65535 : Int32))), .val (.int ((f0_s0_113 p3).toUInt32.toUInt16.toUInt32.toInt32)), .val (.ref b7), .val (.ref b15), .unset, .unset, .unset, .unset, .unset] [(.long (127 : Int64)), (.long ((q1.toUInt64 >>> ((16 : Int32) &&& 0x3f).toInt64.toUInt64).toInt64)), (.int ((f0_v6 p4) + (2 : Int32))), (.ref b15)])) _
    refine XS.land X231.here hx rfl (hb hby at_363) rfl ?_
    show Steps p.tables e below (T231.setTop (mkF m 364 #[.val (.long q1), .second, .val (.int p2), .val (.int p3), .val (.int p4), .val (.int p5), .val (.int p6), .val (.int (f0_v6 p4)), .val (.int (f0_v16 p5)), .val (.int (f0_s0_31 p6)), .val (.int (f0_s0_45 p6)), .val (.int (f0_v54 p6)), .val (.long (f0_s0_78 p5)), .second, .val (.int (p2.toInt8.toInt32)), .val (.int (p2.toUInt32.toUInt16.toUInt32.toInt32)), .val (.int (p3 &&& (65535 : Int32))), .val (.int ((f0_s0_113 p3).toUInt32.toUInt16.toUInt32.toInt32)), .val (.ref b7), .val (.ref b15), .unset, .unset, .unset, .unset, .unset] [(.long (((q1.toUInt64 >>> ((16 : Int32) &&& 0x3f).toInt64.toUInt64).toInt64) &&& (127 : Int64))), (.int ((f0_v6 p4) + (2 : Int32))), (.ref b15)])) _
    refine XS.l2i X231.here hx rfl (hb hby at_364) rfl ?_
    show Steps p.tables e below (T231.setTop (mkF m 365 #[.val (.long q1), .second, .val (.int p2), .val (.int p3), .val (.int p4), .val (.int p5), .val (.int p6), .val (.int (f0_v6 p4)), .val (.int (f0_v16 p5)), .val (.int (f0_s0_31 p6)), .val (.int (f0_s0_45 p6)), .val (.int (f0_v54 p6)), .val (.long (f0_s0_78 p5)), .second, .val (.int (p2.toInt8.toInt32)), .val (.int (p2.toUInt32.toUInt16.toUInt32.toInt32)), .val (.int (p3 &&& (65535 : Int32))), .val (.int ((f0_s0_113 p3).toUInt32.toUInt16.toUInt32.toInt32)), .val (.ref b7), .val (.ref b15), .unset, .unset, .unset, .unset, .unset] [(.int ((((q1.toUInt64 >>> ((16 : Int32) &&& 0x3f).toInt64.toUInt64).toInt64) &&& (127 : Int64)).toInt32)), (.int ((f0_v6 p4) + (2 : Int32))), (.ref b15)])) _
    refine XS.i2c X231.here hx rfl (hb hby at_365) rfl ?_
    show Steps p.tables e below (T231.setTop (mkF m 366 #[.val (.long q1), .second, .val (.int p2), .val (.int p3), .val (.int p4), .val (.int p5), .val (.int p6), .val (.int (f0_v6 p4)), .val (.int (f0_v16 p5)), .val (.int (f0_s0_31 p6)), .val (.int (f0_s0_45 p6)), .val (.int (f0_v54 p6)), .val (.long (f0_s0_78 p5)), .second, .val (.int (p2.toInt8.toInt32)), .val (.int (p2.toUInt32.toUInt16.toUInt32.toInt32)), .val (.int (p3 &&& (65535 : Int32))), .val (.int ((f0_s0_113 p3).toUInt32.toUInt16.toUInt32.toInt32)), .val (.ref b7), .val (.ref b15), .unset, .unset, .unset, .unset, .unset] [(.int (((((q1.toUInt64 >>> ((16 : Int32) &&& 0x3f).toInt64.toUInt64).toInt64) &&& (127 : Int64)).toInt32).toUInt32.toUInt16.toUInt32.toInt32)), (.int ((f0_v6 p4) + (2 : Int32))), (.ref b15)])) _
    refine st240 _ ?_
    show Steps p.tables e below (T240.setTop (mkF m 367 #[.val (.long q1), .second, .val (.int p2), .val (.int p3), .val (.int p4), .val (.int p5), .val (.int p6), .val (.int (f0_v6 p4)), .val (.int (f0_v16 p5)), .val (.int (f0_s0_31 p6)), .val (.int (f0_s0_45 p6)), .val (.int (f0_v54 p6)), .val (.long (f0_s0_78 p5)), .second, .val (.int (p2.toInt8.toInt32)), .val (.int (p2.toUInt32.toUInt16.toUInt32.toInt32)), .val (.int (p3 &&& (65535 : Int32))), .val (.int ((f0_s0_113 p3).toUInt32.toUInt16.toUInt32.toInt32)), .val (.ref b7), .val (.ref b15), .unset, .unset, .unset, .unset, .unset] [])) _
    refine XS.aload X240.here hx rfl (hb hby at_367) rfl rfl ?_
    show Steps p.tables e below (T240.setTop (mkF m 369 #[.val (.long q1), .second, .val (.int p2), .val (.int p3), .val (.int p4), .val (.int p5), .val (.int p6), .val (.int (f0_v6 p4)), .val (.int (f0_v16 p5)), .val (.int (f0_s0_31 p6)), .val (.int (f0_s0_45 p6)), .val (.int (f0_v54 p6)), .val (.long (f0_s0_78 p5)), .second, .val (.int (p2.toInt8.toInt32)), .val (.int (p2.toUInt32.toUInt16.toUInt32.toInt32)), .val (.int (p3 &&& (65535 : Int32))), .val (.int ((f0_s0_113 p3).toUInt32.toUInt16.toUInt32.toInt32)), .val (.ref b7), .val (.ref b15), .unset, .unset, .unset, .unset, .unset] [(.ref b15)])) _
    refine XS.iload X240.here hx rfl (hb hby at_369) rfl ?_
    show Steps p.tables e below (T240.setTop (mkF m 371 #[.val (.long q1), .second, .val (.int p2), .val (.int p3), .val (.int p4), .val (.int p5), .val (.int p6), .val (.int (f0_v6 p4)), .val (.int (f0_v16 p5)), .val (.int (f0_s0_31 p6)), .val (.int (f0_s0_45 p6)), .val (.int (f0_v54 p6)), .val (.long (f0_s0_78 p5)), .second, .val (.int (p2.toInt8.toInt32)), .val (.int (p2.toUInt32.toUInt16.toUInt32.toInt32)), .val (.int (p3 &&& (65535 : Int32))), .val (.int ((f0_s0_113 p3).toUInt32.toUInt16.toUInt32.toInt32)), .val (.ref b7), .val (.ref b15), .unset, .unset, .unset, .unset, .unset] [(.int (f0_v6 p4)), (.ref b15)])) _
    refine XS.iconst X240.here hx rfl (hb hby at_371) ?_
    show Steps p.tables e below (T240.setTop (mkF m 372 #[.val (.long q1), .second, .val (.int p2), .val (.int p3), .val (.int p4), .val (.int p5), .val (.int p6), .val (.int (f0_v6 p4)), .val (.int (f0_v16 p5)), .val (.int (f0_s0_31 p6)), .val (.int (f0_s0_45 p6)), .val (.int (f0_v54 p6)), .val (.long (f0_s0_78 p5)), .second, .val (.int (p2.toInt8.toInt32)), .val (.int (p2.toUInt32.toUInt16.toUInt32.toInt32)), .val (.int (p3 &&& (65535 : Int32))), .val (.int ((f0_s0_113 p3).toUInt32.toUInt16.toUInt32.toInt32)), .val (.ref b7), .val (.ref b15), .unset, .unset, .unset, .unset, .unset] [(.int (3 : Int32)), (.int (f0_v6 p4)), (.ref b15)])) _
    refine XS.iadd X240.here hx rfl (hb hby at_372) rfl ?_
    show Steps p.tables e below (T240.setTop (mkF m 373 #[.val (.long q1), .second, .val (.int p2), .val (.int p3), .val (.int p4), .val (.int p5), .val (.int p6), .val (.int (f0_v6 p4)), .val (.int (f0_v16 p5)), .val (.int (f0_s0_31 p6)), .val (.int (f0_s0_45 p6)), .val (.int (f0_v54 p6)), .val (.long (f0_s0_78 p5)), .second, .val (.int (p2.toInt8.toInt32)), .val (.int (p2.toUInt32.toUInt16.toUInt32.toInt32)), .val (.int (p3 &&& (65535 : Int32))), .val (.int ((f0_s0_113 p3).toUInt32.toUInt16.toUInt32.toInt32)), .val (.ref b7), .val (.ref b15), .unset, .unset, .unset, .unset, .unset] [(.int ((f0_v6 p4) + (3 : Int32))), (.ref b15)])) _
    refine XS.lloadN X240.here hx rfl (hb hby at_373) rfl ?_
    show Steps p.tables e below (T240.setTop (mkF m 374 #[.val (.long q1), .second, .val (.int p2), .val (.int p3), .val (.int p4), .val (.int p5), .val (.int p6), .val (.int (f0_v6 p4)), .val (.int (f0_v16 p5)), .val (.int (f0_s0_31 p6)), .val (.int (f0_s0_45 p6)), .val (.int (f0_v54 p6)), .val (.long (f0_s0_78 p5)), .second, .val (.int (p2.toInt8.toInt32)), .val (.int (p2.toUInt32.toUInt16.toUInt32.toInt32)), .val (.int (p3 &&& (65535 : Int32))), .val (.int ((f0_s0_113 p3).toUInt32.toUInt16.toUInt32.toInt32)), .val (.ref b7), .val (.ref b15), .unset, .unset, .unset, .unset, .unset] [(.long q1), (.int ((f0_v6 p4) + (3 : Int32))), (.ref b15)])) _
    refine XS.bipush X240.here hx rfl (hb hby at_374) ?_
    show Steps p.tables e below (T240.setTop (mkF m 376 #[.val (.long q1), .second, .val (.int p2), .val (.int p3), .val (.int p4), .val (.int p5), .val (.int p6), .val (.int (f0_v6 p4)), .val (.int (f0_v16 p5)), .val (.int (f0_s0_31 p6)), .val (.int (f0_s0_45 p6)), .val (.int (f0_v54 p6)), .val (.long (f0_s0_78 p5)), .second, .val (.int (p2.toInt8.toInt32)), .val (.int (p2.toUInt32.toUInt16.toUInt32.toInt32)), .val (.int (p3 &&& (65535 : Int32))), .val (.int ((f0_s0_113 p3).toUInt32.toUInt16.toUInt32.toInt32)), .val (.ref b7), .val (.ref b15), .unset, .unset, .unset, .unset, .unset] [(.int (24 : Int32)), (.long q1), (.int ((f0_v6 p4) + (3 : Int32))), (.ref b15)])) _
    refine XS.lushr X240.here hx rfl (hb hby at_376) rfl ?_
    show Steps p.tables e below (T240.setTop (mkF m 377 #[.val (.long q1), .second, .val (.int p2), .val (.int p3), .val (.int p4), .val (.int p5), .val (.int p6), .val (.int (f0_v6 p4)), .val (.int (f0_v16 p5)), .val (.int (f0_s0_31 p6)), .val (.int (f0_s0_45 p6)), .val (.int (f0_v54 p6)), .val (.long (f0_s0_78 p5)), .second, .val (.int (p2.toInt8.toInt32)), .val (.int (p2.toUInt32.toUInt16.toUInt32.toInt32)), .val (.int (p3 &&& (65535 : Int32))), .val (.int ((f0_s0_113 p3).toUInt32.toUInt16.toUInt32.toInt32)), .val (.ref b7), .val (.ref b15), .unset, .unset, .unset, .unset, .unset] [(.long ((q1.toUInt64 >>> ((24 : Int32) &&& 0x3f).toInt64.toUInt64).toInt64)), (.int ((f0_v6 p4) + (3 : Int32))), (.ref b15)])) _
    refine X240.ldc2Long hx hown (mvT hZ (hw _ (List.mem_of_getElem? (i := 4) rfl))) (g := (mkF m 377 #[.val (.long q1), .second, .val (.int p2), .val (.int p3), .val (.int p4), .val (.int p5), .val (.int p6), .val (.int (f0_v6 p4)), .val (.int (f0_v16 p5)), .val (.int (f0_s0_31 p6)), .val (.int (f0_s0_45 p6)), .val (.int (f0_v54 p6)), .val (.long (f0_s0_78 p5)), .second, .val (.int (p2.toInt8.toInt32)), .val (.int (p2.toUInt32.toUInt16.toUInt32.toInt32)), .val (.int (p3 &&& (65535 : Int32))), .val (.int ((f0_s0_113 p3).toUInt32.toUInt16.toUInt32.toInt32)), .val (.ref b7), .val (.ref b15), .unset, .unset, .unset, .unset, .unset] [(.long ((q1.toUInt64 >>> ((24 : Int32) &&& 0x3f).toInt64.toUInt64).toInt64)), (.int ((f0_v6 p4) + (3 : Int32))), (.ref b15)])) rfl (hb hby at_377) _ ?_
    show Steps p.tables e below (T240.setTop (mkF m 380 #[.val (.long q1), .second, .val (.int p2), .val (.int p3), .val (.int p4), .val (.int p5), .val (.int p6), .val (.int (f0_v6 p4)), .val (.int (f0_v16 p5)), .val (.int (f0_s0_31 p6)), .val (.int (f0_s0_45 p6)), .val (.int (f0_v54 p6)), .val (.long (f0_s0_78 p5)), .second, .val (.int (p2.toInt8.toInt32)), .val (.int (p2.toUInt32.toUInt16.toUInt32.toInt32)), .val (.int (p3 &&& (65535 : Int32))), .val (.int ((f0_s0_113 p3).toUInt32.toUInt16.toUInt32.toInt32)), .val (.ref b7), .val (.ref b15), .unset, .unset, .unset, .unset, .unset] [(.long (127 : Int64)), (.long ((q1.toUInt64 >>> ((24 : Int32) &&& 0x3f).toInt64.toUInt64).toInt64)), (.int ((f0_v6 p4) + (3 : Int32))), (.ref b15)])) _
    refine XS.land X240.here hx rfl (hb hby at_380) rfl ?_
    show Steps p.tables e below (T240.setTop (mkF m 381 #[.val (.long q1), .second, .val (.int p2), .val (.int p3), .val (.int p4), .val (.int p5), .val (.int p6), .val (.int (f0_v6 p4)), .val (.int (f0_v16 p5)), .val (.int (f0_s0_31 p6)), .val (.int (f0_s0_45 p6)), .val (.int (f0_v54 p6)), .val (.long (f0_s0_78 p5)), .second, .val (.int (p2.toInt8.toInt32)), .val (.int (p2.toUInt32.toUInt16.toUInt32.toInt32)), .val (.int (p3 &&& (65535 : Int32))), .val (.int ((f0_s0_113 p3).toUInt32.toUInt16.toUInt32.toInt32)), .val (.ref b7), .val (.ref b15), .unset, .unset, .unset, .unset, .unset] [(.long (((q1.toUInt64 >>> ((24 : Int32) &&& 0x3f).toInt64.toUInt64).toInt64) &&& (127 : Int64))), (.int ((f0_v6 p4) + (3 : Int32))), (.ref b15)])) _
    refine XS.l2i X240.here hx rfl (hb hby at_381) rfl ?_
    show Steps p.tables e below (T240.setTop (mkF m 382 #[.val (.long q1), .second, .val (.int p2), .val (.int p3), .val (.int p4), .val (.int p5), .val (.int p6), .val (.int (f0_v6 p4)), .val (.int (f0_v16 p5)), .val (.int (f0_s0_31 p6)), .val (.int (f0_s0_45 p6)), .val (.int (f0_v54 p6)), .val (.long (f0_s0_78 p5)), .second, .val (.int (p2.toInt8.toInt32)), .val (.int (p2.toUInt32.toUInt16.toUInt32.toInt32)), .val (.int (p3 &&& (65535 : Int32))), .val (.int ((f0_s0_113 p3).toUInt32.toUInt16.toUInt32.toInt32)), .val (.ref b7), .val (.ref b15), .unset, .unset, .unset, .unset, .unset] [(.int ((((q1.toUInt64 >>> ((24 : Int32) &&& 0x3f).toInt64.toUInt64).toInt64) &&& (127 : Int64)).toInt32)), (.int ((f0_v6 p4) + (3 : Int32))), (.ref b15)])) _
    refine XS.i2c X240.here hx rfl (hb hby at_382) rfl ?_
    show Steps p.tables e below (T240.setTop (mkF m 383 #[.val (.long q1), .second, .val (.int p2), .val (.int p3), .val (.int p4), .val (.int p5), .val (.int p6), .val (.int (f0_v6 p4)), .val (.int (f0_v16 p5)), .val (.int (f0_s0_31 p6)), .val (.int (f0_s0_45 p6)), .val (.int (f0_v54 p6)), .val (.long (f0_s0_78 p5)), .second, .val (.int (p2.toInt8.toInt32)), .val (.int (p2.toUInt32.toUInt16.toUInt32.toInt32)), .val (.int (p3 &&& (65535 : Int32))), .val (.int ((f0_s0_113 p3).toUInt32.toUInt16.toUInt32.toInt32)), .val (.ref b7), .val (.ref b15), .unset, .unset, .unset, .unset, .unset] [(.int (((((q1.toUInt64 >>> ((24 : Int32) &&& 0x3f).toInt64.toUInt64).toInt64) &&& (127 : Int64)).toInt32).toUInt32.toUInt16.toUInt32.toInt32)), (.int ((f0_v6 p4) + (3 : Int32))), (.ref b15)])) _
    refine st249 _ ?_
    show Steps p.tables e below (T249.setTop (mkF m 384 #[.val (.long q1), .second, .val (.int p2), .val (.int p3), .val (.int p4), .val (.int p5), .val (.int p6), .val (.int (f0_v6 p4)), .val (.int (f0_v16 p5)), .val (.int (f0_s0_31 p6)), .val (.int (f0_s0_45 p6)), .val (.int (f0_v54 p6)), .val (.long (f0_s0_78 p5)), .second, .val (.int (p2.toInt8.toInt32)), .val (.int (p2.toUInt32.toUInt16.toUInt32.toInt32)), .val (.int (p3 &&& (65535 : Int32))), .val (.int ((f0_s0_113 p3).toUInt32.toUInt16.toUInt32.toInt32)), .val (.ref b7), .val (.ref b15), .unset, .unset, .unset, .unset, .unset] [])) _
    refine XS.aload X249.here hx rfl (hb hby at_384) rfl rfl ?_
    show Steps p.tables e below (T249.setTop (mkF m 386 #[.val (.long q1), .second, .val (.int p2), .val (.int p3), .val (.int p4), .val (.int p5), .val (.int p6), .val (.int (f0_v6 p4)), .val (.int (f0_v16 p5)), .val (.int (f0_s0_31 p6)), .val (.int (f0_s0_45 p6)), .val (.int (f0_v54 p6)), .val (.long (f0_s0_78 p5)), .second, .val (.int (p2.toInt8.toInt32)), .val (.int (p2.toUInt32.toUInt16.toUInt32.toInt32)), .val (.int (p3 &&& (65535 : Int32))), .val (.int ((f0_s0_113 p3).toUInt32.toUInt16.toUInt32.toInt32)), .val (.ref b7), .val (.ref b15), .unset, .unset, .unset, .unset, .unset] [(.ref b15)])) _
    refine XS.iload X249.here hx rfl (hb hby at_386) rfl ?_
    show Steps p.tables e below (T249.setTop (mkF m 388 #[.val (.long q1), .second, .val (.int p2), .val (.int p3), .val (.int p4), .val (.int p5), .val (.int p6), .val (.int (f0_v6 p4)), .val (.int (f0_v16 p5)), .val (.int (f0_s0_31 p6)), .val (.int (f0_s0_45 p6)), .val (.int (f0_v54 p6)), .val (.long (f0_s0_78 p5)), .second, .val (.int (p2.toInt8.toInt32)), .val (.int (p2.toUInt32.toUInt16.toUInt32.toInt32)), .val (.int (p3 &&& (65535 : Int32))), .val (.int ((f0_s0_113 p3).toUInt32.toUInt16.toUInt32.toInt32)), .val (.ref b7), .val (.ref b15), .unset, .unset, .unset, .unset, .unset] [(.int (f0_v6 p4)), (.ref b15)])) _
    refine XS.iconst X249.here hx rfl (hb hby at_388) ?_
    show Steps p.tables e below (T249.setTop (mkF m 389 #[.val (.long q1), .second, .val (.int p2), .val (.int p3), .val (.int p4), .val (.int p5), .val (.int p6), .val (.int (f0_v6 p4)), .val (.int (f0_v16 p5)), .val (.int (f0_s0_31 p6)), .val (.int (f0_s0_45 p6)), .val (.int (f0_v54 p6)), .val (.long (f0_s0_78 p5)), .second, .val (.int (p2.toInt8.toInt32)), .val (.int (p2.toUInt32.toUInt16.toUInt32.toInt32)), .val (.int (p3 &&& (65535 : Int32))), .val (.int ((f0_s0_113 p3).toUInt32.toUInt16.toUInt32.toInt32)), .val (.ref b7), .val (.ref b15), .unset, .unset, .unset, .unset, .unset] [(.int (4 : Int32)), (.int (f0_v6 p4)), (.ref b15)])) _
    refine XS.iadd X249.here hx rfl (hb hby at_389) rfl ?_
    show Steps p.tables e below (T249.setTop (mkF m 390 #[.val (.long q1), .second, .val (.int p2), .val (.int p3), .val (.int p4), .val (.int p5), .val (.int p6), .val (.int (f0_v6 p4)), .val (.int (f0_v16 p5)), .val (.int (f0_s0_31 p6)), .val (.int (f0_s0_45 p6)), .val (.int (f0_v54 p6)), .val (.long (f0_s0_78 p5)), .second, .val (.int (p2.toInt8.toInt32)), .val (.int (p2.toUInt32.toUInt16.toUInt32.toInt32)), .val (.int (p3 &&& (65535 : Int32))), .val (.int ((f0_s0_113 p3).toUInt32.toUInt16.toUInt32.toInt32)), .val (.ref b7), .val (.ref b15), .unset, .unset, .unset, .unset, .unset] [(.int ((f0_v6 p4) + (4 : Int32))), (.ref b15)])) _
    refine XS.lloadN X249.here hx rfl (hb hby at_390) rfl ?_
    show Steps p.tables e below (T249.setTop (mkF m 391 #[.val (.long q1), .second, .val (.int p2), .val (.int p3), .val (.int p4), .val (.int p5), .val (.int p6), .val (.int (f0_v6 p4)), .val (.int (f0_v16 p5)), .val (.int (f0_s0_31 p6)), .val (.int (f0_s0_45 p6)), .val (.int (f0_v54 p6)), .val (.long (f0_s0_78 p5)), .second, .val (.int (p2.toInt8.toInt32)), .val (.int (p2.toUInt32.toUInt16.toUInt32.toInt32)), .val (.int (p3 &&& (65535 : Int32))), .val (.int ((f0_s0_113 p3).toUInt32.toUInt16.toUInt32.toInt32)), .val (.ref b7), .val (.ref b15), .unset, .unset, .unset, .unset, .unset] [(.long q1), (.int ((f0_v6 p4) + (4 : Int32))), (.ref b15)])) _
    refine XS.bipush X249.here hx rfl (hb hby at_391) ?_
    show Steps p.tables e below (T249.setTop (mkF m 393 #[.val (.long q1), .second, .val (.int p2), .val (.int p3), .val (.int p4), .val (.int p5), .val (.int p6), .val (.int (f0_v6 p4)), .val (.int (f0_v16 p5)), .val (.int (f0_s0_31 p6)), .val (.int (f0_s0_45 p6)), .val (.int (f0_v54 p6)), .val (.long (f0_s0_78 p5)), .second, .val (.int (p2.toInt8.toInt32)), .val (.int (p2.toUInt32.toUInt16.toUInt32.toInt32)), .val (.int (p3 &&& (65535 : Int32))), .val (.int ((f0_s0_113 p3).toUInt32.toUInt16.toUInt32.toInt32)), .val (.ref b7), .val (.ref b15), .unset, .unset, .unset, .unset, .unset] [(.int (32 : Int32)), (.long q1), (.int ((f0_v6 p4) + (4 : Int32))), (.ref b15)])) _
    refine XS.lushr X249.here hx rfl (hb hby at_393) rfl ?_
    show Steps p.tables e below (T249.setTop (mkF m 394 #[.val (.long q1), .second, .val (.int p2), .val (.int p3), .val (.int p4), .val (.int p5), .val (.int p6), .val (.int (f0_v6 p4)), .val (.int (f0_v16 p5)), .val (.int (f0_s0_31 p6)), .val (.int (f0_s0_45 p6)), .val (.int (f0_v54 p6)), .val (.long (f0_s0_78 p5)), .second, .val (.int (p2.toInt8.toInt32)), .val (.int (p2.toUInt32.toUInt16.toUInt32.toInt32)), .val (.int (p3 &&& (65535 : Int32))), .val (.int ((f0_s0_113 p3).toUInt32.toUInt16.toUInt32.toInt32)), .val (.ref b7), .val (.ref b15), .unset, .unset, .unset, .unset, .unset] [(.long ((q1.toUInt64 >>> ((32 : Int32) &&& 0x3f).toInt64.toUInt64).toInt64)), (.int ((f0_v6 p4) + (4 : Int32))), (.ref b15)])) _
    refine X249.ldc2Long hx hown (mvT hZ (hw _ (List.mem_of_getElem? (i := 4) rfl))) (g := (mkF m 394 #[.val (.long q1), .second, .val (.int p2), .val (.int p3), .val (.int p4), .val (.int p5), .val (.int p6), .val (.int (f0_v6 p4)), .val (.int (f0_v16 p5)), .val (.int (f0_s0_31 p6)), .val (.int (f0_s0_45 p6)), .val (.int (f0_v54 p6)), .val (.long (f0_s0_78 p5)), .second, .val (.int (p2.toInt8.toInt32)), .val (.int (p2.toUInt32.toUInt16.toUInt32.toInt32)), .val (.int (p3 &&& (65535 : Int32))), .val (.int ((f0_s0_113 p3).toUInt32.toUInt16.toUInt32.toInt32)), .val (.ref b7), .val (.ref b15), .unset, .unset, .unset, .unset, .unset] [(.long ((q1.toUInt64 >>> ((32 : Int32) &&& 0x3f).toInt64.toUInt64).toInt64)), (.int ((f0_v6 p4) + (4 : Int32))), (.ref b15)])) rfl (hb hby at_394) _ ?_
    show Steps p.tables e below (T249.setTop (mkF m 397 #[.val (.long q1), .second, .val (.int p2), .val (.int p3), .val (.int p4), .val (.int p5), .val (.int p6), .val (.int (f0_v6 p4)), .val (.int (f0_v16 p5)), .val (.int (f0_s0_31 p6)), .val (.int (f0_s0_45 p6)), .val (.int (f0_v54 p6)), .val (.long (f0_s0_78 p5)), .second, .val (.int (p2.toInt8.toInt32)), .val (.int (p2.toUInt32.toUInt16.toUInt32.toInt32)), .val (.int (p3 &&& (65535 : Int32))), .val (.int ((f0_s0_113 p3).toUInt32.toUInt16.toUInt32.toInt32)), .val (.ref b7), .val (.ref b15), .unset, .unset, .unset, .unset, .unset] [(.long (127 : Int64)), (.long ((q1.toUInt64 >>> ((32 : Int32) &&& 0x3f).toInt64.toUInt64).toInt64)), (.int ((f0_v6 p4) + (4 : Int32))), (.ref b15)])) _
    refine XS.land X249.here hx rfl (hb hby at_397) rfl ?_
    show Steps p.tables e below (T249.setTop (mkF m 398 #[.val (.long q1), .second, .val (.int p2), .val (.int p3), .val (.int p4), .val (.int p5), .val (.int p6), .val (.int (f0_v6 p4)), .val (.int (f0_v16 p5)), .val (.int (f0_s0_31 p6)), .val (.int (f0_s0_45 p6)), .val (.int (f0_v54 p6)), .val (.long (f0_s0_78 p5)), .second, .val (.int (p2.toInt8.toInt32)), .val (.int (p2.toUInt32.toUInt16.toUInt32.toInt32)), .val (.int (p3 &&& (65535 : Int32))), .val (.int ((f0_s0_113 p3).toUInt32.toUInt16.toUInt32.toInt32)), .val (.ref b7), .val (.ref b15), .unset, .unset, .unset, .unset, .unset] [(.long (((q1.toUInt64 >>> ((32 : Int32) &&& 0x3f).toInt64.toUInt64).toInt64) &&& (127 : Int64))), (.int ((f0_v6 p4) + (4 : Int32))), (.ref b15)])) _
    refine XS.l2i X249.here hx rfl (hb hby at_398) rfl ?_
    show Steps p.tables e below (T249.setTop (mkF m 399 #[.val (.long q1), .second, .val (.int p2), .val (.int p3), .val (.int p4), .val (.int p5), .val (.int p6), .val (.int (f0_v6 p4)), .val (.int (f0_v16 p5)), .val (.int (f0_s0_31 p6)), .val (.int (f0_s0_45 p6)), .val (.int (f0_v54 p6)), .val (.long (f0_s0_78 p5)), .second, .val (.int (p2.toInt8.toInt32)), .val (.int (p2.toUInt32.toUInt16.toUInt32.toInt32)), .val (.int (p3 &&& (65535 : Int32))), .val (.int ((f0_s0_113 p3).toUInt32.toUInt16.toUInt32.toInt32)), .val (.ref b7), .val (.ref b15), .unset, .unset, .unset, .unset, .unset] [(.int ((((q1.toUInt64 >>> ((32 : Int32) &&& 0x3f).toInt64.toUInt64).toInt64) &&& (127 : Int64)).toInt32)), (.int ((f0_v6 p4) + (4 : Int32))), (.ref b15)])) _
    refine XS.i2c X249.here hx rfl (hb hby at_399) rfl ?_
    show Steps p.tables e below (T249.setTop (mkF m 400 #[.val (.long q1), .second, .val (.int p2), .val (.int p3), .val (.int p4), .val (.int p5), .val (.int p6), .val (.int (f0_v6 p4)), .val (.int (f0_v16 p5)), .val (.int (f0_s0_31 p6)), .val (.int (f0_s0_45 p6)), .val (.int (f0_v54 p6)), .val (.long (f0_s0_78 p5)), .second, .val (.int (p2.toInt8.toInt32)), .val (.int (p2.toUInt32.toUInt16.toUInt32.toInt32)), .val (.int (p3 &&& (65535 : Int32))), .val (.int ((f0_s0_113 p3).toUInt32.toUInt16.toUInt32.toInt32)), .val (.ref b7), .val (.ref b15), .unset, .unset, .unset, .unset, .unset] [(.int (((((q1.toUInt64 >>> ((32 : Int32) &&& 0x3f).toInt64.toUInt64).toInt64) &&& (127 : Int64)).toInt32).toUInt32.toUInt16.toUInt32.toInt32)), (.int ((f0_v6 p4) + (4 : Int32))), (.ref b15)])) _
    refine st258 _ ?_
    show Steps p.tables e below (T258.setTop (mkF m 401 #[.val (.long q1), .second, .val (.int p2), .val (.int p3), .val (.int p4), .val (.int p5), .val (.int p6), .val (.int (f0_v6 p4)), .val (.int (f0_v16 p5)), .val (.int (f0_s0_31 p6)), .val (.int (f0_s0_45 p6)), .val (.int (f0_v54 p6)), .val (.long (f0_s0_78 p5)), .second, .val (.int (p2.toInt8.toInt32)), .val (.int (p2.toUInt32.toUInt16.toUInt32.toInt32)), .val (.int (p3 &&& (65535 : Int32))), .val (.int ((f0_s0_113 p3).toUInt32.toUInt16.toUInt32.toInt32)), .val (.ref b7), .val (.ref b15), .unset, .unset, .unset, .unset, .unset] [])) _
    refine XS.aload X258.here hx rfl (hb hby at_401) rfl rfl ?_
    show Steps p.tables e below (T258.setTop (mkF m 403 #[.val (.long q1), .second, .val (.int p2), .val (.int p3), .val (.int p4), .val (.int p5), .val (.int p6), .val (.int (f0_v6 p4)), .val (.int (f0_v16 p5)), .val (.int (f0_s0_31 p6)), .val (.int (f0_s0_45 p6)), .val (.int (f0_v54 p6)), .val (.long (f0_s0_78 p5)), .second, .val (.int (p2.toInt8.toInt32)), .val (.int (p2.toUInt32.toUInt16.toUInt32.toInt32)), .val (.int (p3 &&& (65535 : Int32))), .val (.int ((f0_s0_113 p3).toUInt32.toUInt16.toUInt32.toInt32)), .val (.ref b7), .val (.ref b15), .unset, .unset, .unset, .unset, .unset] [(.ref b15)])) _
    refine XS.iload X258.here hx rfl (hb hby at_403) rfl ?_
    show Steps p.tables e below (T258.setTop (mkF m 405 #[.val (.long q1), .second, .val (.int p2), .val (.int p3), .val (.int p4), .val (.int p5), .val (.int p6), .val (.int (f0_v6 p4)), .val (.int (f0_v16 p5)), .val (.int (f0_s0_31 p6)), .val (.int (f0_s0_45 p6)), .val (.int (f0_v54 p6)), .val (.long (f0_s0_78 p5)), .second, .val (.int (p2.toInt8.toInt32)), .val (.int (p2.toUInt32.toUInt16.toUInt32.toInt32)), .val (.int (p3 &&& (65535 : Int32))), .val (.int ((f0_s0_113 p3).toUInt32.toUInt16.toUInt32.toInt32)), .val (.ref b7), .val (.ref b15), .unset, .unset, .unset, .unset, .unset] [(.int (f0_v6 p4)), (.ref b15)])) _
    refine XS.iconst X258.here hx rfl (hb hby at_405) ?_
    show Steps p.tables e below (T258.setTop (mkF m 406 #[.val (.long q1), .second, .val (.int p2), .val (.int p3), .val (.int p4), .val (.int p5), .val (.int p6), .val (.int (f0_v6 p4)), .val (.int (f0_v16 p5)), .val (.int (f0_s0_31 p6)), .val (.int (f0_s0_45 p6)), .val (.int (f0_v54 p6)), .val (.long (f0_s0_78 p5)), .second, .val (.int (p2.toInt8.toInt32)), .val (.int (p2.toUInt32.toUInt16.toUInt32.toInt32)), .val (.int (p3 &&& (65535 : Int32))), .val (.int ((f0_s0_113 p3).toUInt32.toUInt16.toUInt32.toInt32)), .val (.ref b7), .val (.ref b15), .unset, .unset, .unset, .unset, .unset] [(.int (5 : Int32)), (.int (f0_v6 p4)), (.ref b15)])) _
    refine XS.iadd X258.here hx rfl (hb hby at_406) rfl ?_
    show Steps p.tables e below (T258.setTop (mkF m 407 #[.val (.long q1), .second, .val (.int p2), .val (.int p3), .val (.int p4), .val (.int p5), .val (.int p6), .val (.int (f0_v6 p4)), .val (.int (f0_v16 p5)), .val (.int (f0_s0_31 p6)), .val (.int (f0_s0_45 p6)), .val (.int (f0_v54 p6)), .val (.long (f0_s0_78 p5)), .second, .val (.int (p2.toInt8.toInt32)), .val (.int (p2.toUInt32.toUInt16.toUInt32.toInt32)), .val (.int (p3 &&& (65535 : Int32))), .val (.int ((f0_s0_113 p3).toUInt32.toUInt16.toUInt32.toInt32)), .val (.ref b7), .val (.ref b15), .unset, .unset, .unset, .unset, .unset] [(.int ((f0_v6 p4) + (5 : Int32))), (.ref b15)])) _
    refine XS.lloadN X258.here hx rfl (hb hby at_407) rfl ?_
    show Steps p.tables e below (T258.setTop (mkF m 408 #[.val (.long q1), .second, .val (.int p2), .val (.int p3), .val (.int p4), .val (.int p5), .val (.int p6), .val (.int (f0_v6 p4)), .val (.int (f0_v16 p5)), .val (.int (f0_s0_31 p6)), .val (.int (f0_s0_45 p6)), .val (.int (f0_v54 p6)), .val (.long (f0_s0_78 p5)), .second, .val (.int (p2.toInt8.toInt32)), .val (.int (p2.toUInt32.toUInt16.toUInt32.toInt32)), .val (.int (p3 &&& (65535 : Int32))), .val (.int ((f0_s0_113 p3).toUInt32.toUInt16.toUInt32.toInt32)), .val (.ref b7), .val (.ref b15), .unset, .unset, .unset, .unset, .unset] [(.long q1), (.int ((f0_v6 p4) + (5 : Int32))), (.ref b15)])) _
    refine XS.bipush X258.here hx rfl (hb hby at_408) ?_
    show Steps p.tables e below (T258.setTop (mkF m 410 #[.val (.long q1), .second, .val (.int p2), .val (.int p3), .val (.int p4), .val (.int p5), .val (.int p6), .val (.int (f0_v6 p4)), .val (.int (f0_v16 p5)), .val (.int (f0_s0_31 p6)), .val (.int (f0_s0_45 p6)), .val (.int (f0_v54 p6)), .val (.long (f0_s0_78 p5)), .second, .val (.int (p2.toInt8.toInt32)), .val (.int (p2.toUInt32.toUInt16.toUInt32.toInt32)), .val (.int (p3 &&& (65535 : Int32))), .val (.int ((f0_s0_113 p3).toUInt32.toUInt16.toUInt32.toInt32)), .val (.ref b7), .val (.ref b15), .unset, .unset, .unset, .unset, .unset] [(.int (40 : Int32)), (.long q1), (.int ((f0_v6 p4) + (5 : Int32))), (.ref b15)])) _
    refine XS.lushr X258.here hx rfl (hb hby at_410) rfl ?_
    show Steps p.tables e below (T258.setTop (mkF m 411 #[.val (.long q1), .second, .val (.int p2), .val (.int p3), .val (.int p4), .val (.int p5), .val (.int p6), .val (.int (f0_v6 p4)), .val (.int (f0_v16 p5)), .val (.int (f0_s0_31 p6)), .val (.int (f0_s0_45 p6)), .val (.int (f0_v54 p6)), .val (.long (f0_s0_78 p5)), .second, .val (.int (p2.toInt8.toInt32)), .val (.int (p2.toUInt32.toUInt16.toUInt32.toInt32)), .val (.int (p3 &&& (65535 : Int32))), .val (.int ((f0_s0_113 p3).toUInt32.toUInt16.toUInt32.toInt32)), .val (.ref b7), .val (.ref b15), .unset, .unset, .unset, .unset, .unset] [(.long ((q1.toUInt64 >>> ((40 : Int32) &&& 0x3f).toInt64.toUInt64).toInt64)), (.int ((f0_v6 p4) + (5 : Int32))), (.ref b15)])) _
    refine X258.ldc2Long hx hown (mvT hZ (hw _ (List.mem_of_getElem? (i := 4) rfl))) (g := (mkF m 411 #[.val (.long q1), .second, .val (.int p2), .val (.int p3), .val (.int p4), .val (.int p5), .val (.int p6), .val (.int (f0_v6 p4)), .val (.int (f0_v16 p5)), .val (.int (f0_s0_31 p6)), .val (.int (f0_s0_45 p6)), .val (.int (f0_v54 p6)), .val (.long (f0_s0_78 p5)), .second, .val (.int (p2.toInt8.toInt32)), .val (.int (p2.toUInt32.toUInt16.toUInt32.toInt32)), .val (.int (p3 &&& (65535 : Int32))), .val (.int ((f0_s0_113 p3).toUInt32.toUInt16.toUInt32.toInt32)), .val (.ref b7), .val (.ref b15), .unset, .unset, .unset, .unset, .unset] [(.long ((q1.toUInt64 >>> ((40 : Int32) &&& 0x3f).toInt64.toUInt64).toInt64)), (.int ((f0_v6 p4) + (5 : Int32))), (.ref b15)])) rfl (hb hby at_411) _ ?_
    show Steps p.tables e below (T258.setTop (mkF m 414 #[.val (.long q1), .second, .val (.int p2), .val (.int p3), .val (.int p4), .val (.int p5), .val (.int p6), .val (.int (f0_v6 p4)), .val (.int (f0_v16 p5)), .val (.int (f0_s0_31 p6)), .val (.int (f0_s0_45 p6)), .val (.int (f0_v54 p6)), .val (.long (f0_s0_78 p5)), .second, .val (.int (p2.toInt8.toInt32)), .val (.int (p2.toUInt32.toUInt16.toUInt32.toInt32)), .val (.int (p3 &&& (65535 : Int32))), .val (.int ((f0_s0_113 p3).toUInt32.toUInt16.toUInt32.toInt32)), .val (.ref b7), .val (.ref b15), .unset, .unset, .unset, .unset, .unset] [(.long (127 : Int64)), (.long ((q1.toUInt64 >>> ((40 : Int32) &&& 0x3f).toInt64.toUInt64).toInt64)), (.int ((f0_v6 p4) + (5 : Int32))), (.ref b15)])) _
    refine XS.land X258.here hx rfl (hb hby at_414) rfl ?_
    show Steps p.tables e below (T258.setTop (mkF m 415 #[.val (.long q1), .second, .val (.int p2), .val (.int p3), .val (.int p4), .val (.int p5), .val (.int p6), .val (.int (f0_v6 p4)), .val (.int (f0_v16 p5)), .val (.int (f0_s0_31 p6)), .val (.int (f0_s0_45 p6)), .val (.int (f0_v54 p6)), .val (.long (f0_s0_78 p5)), .second, .val (.int (p2.toInt8.toInt32)), .val (.int (p2.toUInt32.toUInt16.toUInt32.toInt32)), .val (.int (p3 &&& (65535 : Int32))), .val (.int ((f0_s0_113 p3).toUInt32.toUInt16.toUInt32.toInt32)), .val (.ref b7), .val (.ref b15), .unset, .unset, .unset, .unset, .unset] [(.long (((q1.toUInt64 >>> ((40 : Int32) &&& 0x3f).toInt64.toUInt64).toInt64) &&& (127 : Int64))), (.int ((f0_v6 p4) + (5 : Int32))), (.ref b15)])) _
    refine XS.l2i X258.here hx rfl (hb hby at_415) rfl ?_
    show Steps p.tables e below (T258.setTop (mkF m 416 #[.val (.long q1), .second, .val (.int p2), .val (.int p3), .val (.int p4), .val (.int p5), .val (.int p6), .val (.int (f0_v6 p4)), .val (.int (f0_v16 p5)), .val (.int (f0_s0_31 p6)), .val (.int (f0_s0_45 p6)), .val (.int (f0_v54 p6)), .val (.long (f0_s0_78 p5)), .second, .val (.int (p2.toInt8.toInt32)), .val (.int (p2.toUInt32.toUInt16.toUInt32.toInt32)), .val (.int (p3 &&& (65535 : Int32))), .val (.int ((f0_s0_113 p3).toUInt32.toUInt16.toUInt32.toInt32)), .val (.ref b7), .val (.ref b15), .unset, .unset, .unset, .unset, .unset] [(.int ((((q1.toUInt64 >>> ((40 : Int32) &&& 0x3f).toInt64.toUInt64).toInt64) &&& (127 : Int64)).toInt32)), (.int ((f0_v6 p4) + (5 : Int32))), (.ref b15)])) _
    refine XS.i2c X258.here hx rfl (hb hby at_416) rfl ?_
    show Steps p.tables e below (T258.setTop (mkF m 417 #[.val (.long q1), .second, .val (.int p2), .val (.int p3), .val (.int p4), .val (.int p5), .val (.int p6), .val (.int (f0_v6 p4)), .val (.int (f0_v16 p5)), .val (.int (f0_s0_31 p6)), .val (.int (f0_s0_45 p6)), .val (.int (f0_v54 p6)), .val (.long (f0_s0_78 p5)), .second, .val (.int (p2.toInt8.toInt32)), .val (.int (p2.toUInt32.toUInt16.toUInt32.toInt32)), .val (.int (p3 &&& (65535 : Int32))), .val (.int ((f0_s0_113 p3).toUInt32.toUInt16.toUInt32.toInt32)), .val (.ref b7), .val (.ref b15), .unset, .unset, .unset, .unset, .unset] [(.int (((((q1.toUInt64 >>> ((40 : Int32) &&& 0x3f).toInt64.toUInt64).toInt64) &&& (127 : Int64)).toInt32).toUInt32.toUInt16.toUInt32.toInt32)), (.int ((f0_v6 p4) + (5 : Int32))), (.ref b15)])) _
    refine st267 _ ?_
    show Steps p.tables e below (T267.setTop (mkF m 418 #[.val (.long q1), .second, .val (.int p2), .val (.int p3), .val (.int p4), .val (.int p5), .val (.int p6), .val (.int (f0_v6 p4)), .val (.int (f0_v16 p5)), .val (.int (f0_s0_31 p6)), .val (.int (f0_s0_45 p6)), .val (.int (f0_v54 p6)), .val (.long (f0_s0_78 p5)), .second, .val (.int (p2.toInt8.toInt32)), .val (.int (p2.toUInt32.toUInt16.toUInt32.toInt32)), .val (.int (p3 &&& (65535 : Int32))), .val (.int ((f0_s0_113 p3).toUInt32.toUInt16.toUInt32.toInt32)), .val (.ref b7), .val (.ref b15), .unset, .unset, .unset, .unset, .unset] [])) _
    refine XS.aload X267.here hx rfl (hb hby at_418) rfl rfl ?_
    show Steps p.tables e below (T267.setTop (mkF m 420 #[.val (.long q1), .second, .val (.int p2), .val (.int p3), .val (.int p4), .val (.int p5), .val (.int p6), .val (.int (f0_v6 p4)), .val (.int (f0_v16 p5)), .val (.int (f0_s0_31 p6)), .val (.int (f0_s0_45 p6)), .val (.int (f0_v54 p6)), .val (.long (f0_s0_78 p5)), .second, .val (.int (p2.toInt8.toInt32)), .val (.int (p2.toUInt32.toUInt16.toUInt32.toInt32)), .val (.int (p3 &&& (65535 : Int32))), .val (.int ((f0_s0_113 p3).toUInt32.toUInt16.toUInt32.toInt32)), .val (.ref b7), .val (.ref b15), .unset, .unset, .unset, .unset, .unset] [(.ref b15)])) _
    refine XS.iload X267.here hx rfl (hb hby at_420) rfl ?_
    show Steps p.tables e below (T267.setTop (mkF m 422 #[.val (.long q1), .second, .val (.int p2), .val (.int p3), .val (.int p4), .val (.int p5), .val (.int p6), .val (.int (f0_v6 p4)), .val (.int (f0_v16 p5)), .val (.int (f0_s0_31 p6)), .val (.int (f0_s0_45 p6)), .val (.int (f0_v54 p6)), .val (.long (f0_s0_78 p5)), .second, .val (.int (p2.toInt8.toInt32)), .val (.int (p2.toUInt32.toUInt16.toUInt32.toInt32)), .val (.int (p3 &&& (65535 : Int32))), .val (.int ((f0_s0_113 p3).toUInt32.toUInt16.toUInt32.toInt32)), .val (.ref b7), .val (.ref b15), .unset, .unset, .unset, .unset, .unset] [(.int (f0_v6 p4)), (.ref b15)])) _
    refine XS.bipush X267.here hx rfl (hb hby at_422) ?_
    show Steps p.tables e below (T267.setTop (mkF m 424 #[.val (.long q1), .second, .val (.int p2), .val (.int p3), .val (.int p4), .val (.int p5), .val (.int p6), .val (.int (f0_v6 p4)), .val (.int (f0_v16 p5)), .val (.int (f0_s0_31 p6)), .val (.int (f0_s0_45 p6)), .val (.int (f0_v54 p6)), .val (.long (f0_s0_78 p5)), .second, .val (.int (p2.toInt8.toInt32)), .val (.int (p2.toUInt32.toUInt16.toUInt32.toInt32)), .val (.int (p3 &&& (65535 : Int32))), .val (.int ((f0_s0_113 p3).toUInt32.toUInt16.toUInt32.toInt32)), .val (.ref b7), .val (.ref b15), .unset, .unset, .unset, .unset, .unset] [(.int (6 : Int32)), (.int (f0_v6 p4)), (.ref b15)])) _
    refine XS.iadd X267.here hx rfl (hb hby at_424) rfl ?_
    show Steps p.tables e below (T267.setTop (mkF m 425 #[.val (.long q1), .second, .val (.int p2), .val (.int p3), .val (.int p4), .val (.int p5), .val (.int p6), .val (.int (f0_v6 p4)), .val (.int (f0_v16 p5)), .val (.int (f0_s0_31 p6)), .val (.int (f0_s0_45 p6)), .val (.int (f0_v54 p6)), .val (.long (f0_s0_78 p5)), .second, .val (.int (p2.toInt8.toInt32)), .val (.int (p2.toUInt32.toUInt16.toUInt32.toInt32)), .val (.int (p3 &&& (65535 : Int32))), .val (.int ((f0_s0_113 p3).toUInt32.toUInt16.toUInt32.toInt32)), .val (.ref b7), .val (.ref b15), .unset, .unset, .unset, .unset, .unset] [(.int ((f0_v6 p4) + (6 : Int32))), (.ref b15)])) _
    refine XS.lloadN X267.here hx rfl (hb hby at_425) rfl ?_
    show Steps p.tables e below (T267.setTop (mkF m 426 #[.val (.long q1), .second, .val (.int p2), .val (.int p3), .val (.int p4), .val (.int p5), .val (.int p6), .val (.int (f0_v6 p4)), .val (.int (f0_v16 p5)), .val (.int (f0_s0_31 p6)), .val (.int (f0_s0_45 p6)), .val (.int (f0_v54 p6)), .val (.long (f0_s0_78 p5)), .second, .val (.int (p2.toInt8.toInt32)), .val (.int (p2.toUInt32.toUInt16.toUInt32.toInt32)), .val (.int (p3 &&& (65535 : Int32))), .val (.int ((f0_s0_113 p3).toUInt32.toUInt16.toUInt32.toInt32)), .val (.ref b7), .val (.ref b15), .unset, .unset, .unset, .unset, .unset] [(.long q1), (.int ((f0_v6 p4) + (6 : Int32))), (.ref b15)])) _
    refine XS.bipush X267.here hx rfl (hb hby at_426) ?_
    show Steps p.tables e below (T267.setTop (mkF m 428 #[.val (.long q1), .second, .val (.int p2), .val (.int p3), .val (.int p4), .val (.int p5), .val (.int p6), .val (.int (f0_v6 p4)), .val (.int (f0_v16 p5)), .val (.int (f0_s0_31 p6)), .val (.int (f0_s0_45 p6)), .val (.int (f0_v54 p6)), .val (.long (f0_s0_78 p5)), .second, .val (.int (p2.toInt8.toInt32)), .val (.int (p2.toUInt32.toUInt16.toUInt32.toInt32)), .val (.int (p3 &&& (65535 : Int32))), .val (.int ((f0_s0_113 p3).toUInt32.toUInt16.toUInt32.toInt32)), .val (.ref b7), .val (.ref b15), .unset, .unset, .unset, .unset, .unset] [(.int (48 : Int32)), (.long q1), (.int ((f0_v6 p4) + (6 : Int32))), (.ref b15)])) _
    refine XS.lushr X267.here hx rfl (hb hby at_428) rfl ?_
    show Steps p.tables e below (T267.setTop (mkF m 429 #[.val (.long q1), .second, .val (.int p2), .val (.int p3), .val (.int p4), .val (.int p5), .val (.int p6), .val (.int (f0_v6 p4)), .val (.int (f0_v16 p5)), .val (.int (f0_s0_31 p6)), .val (.int (f0_s0_45 p6)), .val (.int (f0_v54 p6)), .val (.long (f0_s0_78 p5)), .second, .val (.int (p2.toInt8.toInt32)), .val (.int (p2.toUInt32.toUInt16.toUInt32.toInt32)), .val (.int (p3 &&& (65535 : Int32))), .val (.int ((f0_s0_113 p3).toUInt32.toUInt16.toUInt32.toInt32)), .val (.ref b7), .val (.ref b15), .unset, .unset, .unset, .unset, .unset] [(.long ((q1.toUInt64 >>> ((48 : Int32) &&& 0x3f).toInt64.toUInt64).toInt64)), (.int ((f0_v6 p4) + (6 : Int32))), (.ref b15)])) _
    refine X267.ldc2Long hx hown (mvT hZ (hw _ (List.mem_of_getElem? (i := 4) rfl))) (g := (mkF m 429 #[.val (.long q1), .second, .val (.int p2), .val (.int p3), .val (.int p4), .val (.int p5), .val (.int p6), .val (.int (f0_v6 p4)), .val (.int (f0_v16 p5)), .val (.int (f0_s0_31 p6)), .val (.int (f0_s0_45 p6)), .val (.int (f0_v54 p6)), .val (.long (f0_s0_78 p5)), .second, .val (.int (p2.toInt8.toInt32)), .val (.int (p2.toUInt32.toUInt16.toUInt32.toInt32)), .val (.int (p3 &&& (65535 : Int32))), .val (.int ((f0_s0_113 p3).toUInt32.toUInt16.toUInt32.toInt32)), .val (.ref b7), .val (.ref b15), .unset, .unset, .unset, .unset, .unset] [(.long ((q1.toUInt64 >>> ((48 : Int32) &&& 0x3f).toInt64.toUInt64).toInt64)), (.int ((f0_v6 p4) + (6 : Int32))), (.ref b15)])) rfl (hb hby at_429) _ ?_
    show Steps p.tables e below (T267.setTop (mkF m 432 #[.val (.long q1), .second, .val (.int p2), .val (.int p3), .val (.int p4), .val (.int p5), .val (.int p6), .val (.int (f0_v6 p4)), .val (.int (f0_v16 p5)), .val (.int (f0_s0_31 p6)), .val (.int (f0_s0_45 p6)), .val (.int (f0_v54 p6)), .val (.long (f0_s0_78 p5)), .second, .val (.int (p2.toInt8.toInt32)), .val (.int (p2.toUInt32.toUInt16.toUInt32.toInt32)), .val (.int (p3 &&& (65535 : Int32))), .val (.int ((f0_s0_113 p3).toUInt32.toUInt16.toUInt32.toInt32)), .val (.ref b7), .val (.ref b15), .unset, .unset, .unset, .unset, .unset] [(.long (127 : Int64)), (.long ((q1.toUInt64 >>> ((48 : Int32) &&& 0x3f).toInt64.toUInt64).toInt64)), (.int ((f0_v6 p4) + (6 : Int32))), (.ref b15)])) _
    refine XS.land X267.here hx rfl (hb hby at_432) rfl ?_
    show Steps p.tables e below (T267.setTop (mkF m 433 #[.val (.long q1), .second, .val (.int p2), .val (.int p3), .val (.int p4), .val (.int p5), .val (.int p6), .val (.int (f0_v6 p4)), .val (.int (f0_v16 p5)), .val (.int (f0_s0_31 p6)), .val (.int (f0_s0_45 p6)), .val (.int (f0_v54 p6)), .val (.long (f0_s0_78 p5)), .second, .val (.int (p2.toInt8.toInt32)), .val (.int (p2.toUInt32.toUInt16.toUInt32.toInt32)), .val (.int (p3 &&& (65535 : Int32))), .val (.int ((f0_s0_113 p3).toUInt32.toUInt16.toUInt32.toInt32)), .val (.ref b7), .val (.ref b15), .unset, .unset, .unset, .unset, .unset] [(.long (((q1.toUInt64 >>> ((48 : Int32) &&& 0x3f).toInt64.toUInt64).toInt64) &&& (127 : Int64))), (.int ((f0_v6 p4) + (6 : Int32))), (.ref b15)])) _
    refine XS.l2i X267.here hx rfl (hb hby at_433) rfl ?_
    show Steps p.tables e below (T267.setTop (mkF m 434 #[.val (.long q1), .second, .val (.int p2), .val (.int p3), .val (.int p4), .val (.int p5), .val (.int p6), .val (.int (f0_v6 p4)), .val (.int (f0_v16 p5)), .val (.int (f0_s0_31 p6)), .val (.int (f0_s0_45 p6)), .val (.int (f0_v54 p6)), .val (.long (f0_s0_78 p5)), .second, .val (.int (p2.toInt8.toInt32)), .val (.int (p2.toUInt32.toUInt16.toUInt32.toInt32)), .val (.int (p3 &&& (65535 : Int32))), .val (.int ((f0_s0_113 p3).toUInt32.toUInt16.toUInt32.toInt32)), .val (.ref b7), .val (.ref b15), .unset, .unset, .unset, .unset, .unset] [(.int ((((q1.toUInt64 >>> ((48 : Int32) &&& 0x3f).toInt64.toUInt64).toInt64) &&& (127 : Int64)).toInt32)), (.int ((f0_v6 p4) + (6 : Int32))), (.ref b15)])) _
    refine XS.i2c X267.here hx rfl (hb hby at_434) rfl ?_
    show Steps p.tables e below (T267.setTop (mkF m 435 #[.val (.long q1), .second, .val (.int p2), .val (.int p3), .val (.int p4), .val (.int p5), .val (.int p6), .val (.int (f0_v6 p4)), .val (.int (f0_v16 p5)), .val (.int (f0_s0_31 p6)), .val (.int (f0_s0_45 p6)), .val (.int (f0_v54 p6)), .val (.long (f0_s0_78 p5)), .second, .val (.int (p2.toInt8.toInt32)), .val (.int (p2.toUInt32.toUInt16.toUInt32.toInt32)), .val (.int (p3 &&& (65535 : Int32))), .val (.int ((f0_s0_113 p3).toUInt32.toUInt16.toUInt32.toInt32)), .val (.ref b7), .val (.ref b15), .unset, .unset, .unset, .unset, .unset] [(.int (((((q1.toUInt64 >>> ((48 : Int32) &&& 0x3f).toInt64.toUInt64).toInt64) &&& (127 : Int64)).toInt32).toUInt32.toUInt16.toUInt32.toInt32)), (.int ((f0_v6 p4) + (6 : Int32))), (.ref b15)])) _
    refine st276 _ ?_
    show Steps p.tables e below (T276.setTop (mkF m 436 #[.val (.long q1), .second, .val (.int p2), .val (.int p3), .val (.int p4), .val (.int p5), .val (.int p6), .val (.int (f0_v6 p4)), .val (.int (f0_v16 p5)), .val (.int (f0_s0_31 p6)), .val (.int (f0_s0_45 p6)), .val (.int (f0_v54 p6)), .val (.long (f0_s0_78 p5)), .second, .val (.int (p2.toInt8.toInt32)), .val (.int (p2.toUInt32.toUInt16.toUInt32.toInt32)), .val (.int (p3 &&& (65535 : Int32))), .val (.int ((f0_s0_113 p3).toUInt32.toUInt16.toUInt32.toInt32)), .val (.ref b7), .val (.ref b15), .unset, .unset, .unset, .unset, .unset] [])) _
    refine XS.aload X276.here hx rfl (hb hby at_436) rfl rfl ?_
    show Steps p.tables e below (T276.setTop (mkF m 438 #[.val (.long q1), .second, .val (.int p2), .val (.int p3), .val (.int p4), .val (.int p5), .val (.int p6), .val (.int (f0_v6 p4)), .val (.int (f0_v16 p5)), .val (.int (f0_s0_31 p6)), .val (.int (f0_s0_45 p6)), .val (.int (f0_v54 p6)), .val (.long (f0_s0_78 p5)), .second, .val (.int (p2.toInt8.toInt32)), .val (.int (p2.toUInt32.toUInt16.toUInt32.toInt32)), .val (.int (p3 &&& (65535 : Int32))), .val (.int ((f0_s0_113 p3).toUInt32.toUInt16.toUInt32.toInt32)), .val (.ref b7), .val (.ref b15), .unset, .unset, .unset, .unset, .unset] [(.ref b15)])) _
    refine XS.iload X276.here hx rfl (hb hby at_438) rfl ?_
    show Steps p.tables e below (T276.setTop (mkF m 440 #[.val (.long q1), .second, .val (.int p2), .val (.int p3), .val (.int p4), .val (.int p5), .val (.int p6), .val (.int (f0_v6 p4)), .val (.int (f0_v16 p5)), .val (.int (f0_s0_31 p6)), .val (.int (f0_s0_45 p6)), .val (.int (f0_v54 p6)), .val (.long (f0_s0_78 p5)), .second, .val (.int (p2.toInt8.toInt32)), .val (.int (p2.toUInt32.toUInt16.toUInt32.toInt32)), .val (.int (p3 &&& (65535 : Int32))), .val (.int ((f0_s0_113 p3).toUInt32.toUInt16.toUInt32.toInt32)), .val (.ref b7), .val (.ref b15), .unset, .unset, .unset, .unset, .unset] [(.int (f0_v6 p4)), (.ref b15)])) _
    refine XS.bipush X276.here hx rfl (hb hby at_440) ?_
    show Steps p.tables e below (T276.setTop (mkF m 442 #[.val (.long q1), .second, .val (.int p2), .val (.int p3), .val (.int p4), .val (.int p5), .val (.int p6), .val (.int (f0_v6 p4)), .val (.int (f0_v16 p5)), .val (.int (f0_s0_31 p6)), .val (.int (f0_s0_45 p6)), .val (.int (f0_v54 p6)), .val (.long (f0_s0_78 p5)), .second, .val (.int (p2.toInt8.toInt32)), .val (.int (p2.toUInt32.toUInt16.toUInt32.toInt32)), .val (.int (p3 &&& (65535 : Int32))), .val (.int ((f0_s0_113 p3).toUInt32.toUInt16.toUInt32.toInt32)), .val (.ref b7), .val (.ref b15), .unset, .unset, .unset, .unset, .unset] [(.int (7 : Int32)), (.int (f0_v6 p4)), (.ref b15)])) _
    refine XS.iadd X276.here hx rfl (hb hby at_442) rfl ?_
    show Steps p.tables e below (T276.setTop (mkF m 443 #[.val (.long q1), .second, .val (.int p2), .val (.int p3), .val (.int p4), .val (.int p5), .val (.int p6), .val (.int (f0_v6 p4)), .val (.int (f0_v16 p5)), .val (.int (f0_s0_31 p6)), .val (.int (f0_s0_45 p6)), .val (.int (f0_v54 p6)), .val (.long (f0_s0_78 p5)), .second, .val (.int (p2.toInt8.toInt32)), .val (.int (p2.toUInt32.toUInt16.toUInt32.toInt32)), .val (.int (p3 &&& (65535 : Int32))), .val (.int ((f0_s0_113 p3).toUInt32.toUInt16.toUInt32.toInt32)), .val (.ref b7), .val (.ref b15), .unset, .unset, .unset, .unset, .unset] [(.int ((f0_v6 p4) + (7 : Int32))), (.ref b15)])) _
    refine XS.lloadN X276.here hx rfl (hb hby at_443) rfl ?_
    show Steps p.tables e below (T276.setTop (mkF m 444 #[.val (.long q1), .second, .val (.int p2), .val (.int p3), .val (.int p4), .val (.int p5), .val (.int p6), .val (.int (f0_v6 p4)), .val (.int (f0_v16 p5)), .val (.int (f0_s0_31 p6)), .val (.int (f0_s0_45 p6)), .val (.int (f0_v54 p6)), .val (.long (f0_s0_78 p5)), .second, .val (.int (p2.toInt8.toInt32)), .val (.int (p2.toUInt32.toUInt16.toUInt32.toInt32)), .val (.int (p3 &&& (65535 : Int32))), .val (.int ((f0_s0_113 p3).toUInt32.toUInt16.toUInt32.toInt32)), .val (.ref b7), .val (.ref b15), .unset, .unset, .unset, .unset, .unset] [(.long q1), (.int ((f0_v6 p4) + (7 : Int32))), (.ref b15)])) _
    refine XS.bipush X276.here hx rfl (hb hby at_444) ?_
    show Steps p.tables e below (T276.setTop (mkF m 446 #[.val (.long q1), .second, .val (.int p2), .val (.int p3), .val (.int p4), .val (.int p5), .val (.int p6), .val (.int (f0_v6 p4)), .val (.int (f0_v16 p5)), .val (.int (f0_s0_31 p6)), .val (.int (f0_s0_45 p6)), .val (.int (f0_v54 p6)), .val (.long (f0_s0_78 p5)), .second, .val (.int (p2.toInt8.toInt32)), .val (.int (p2.toUInt32.toUInt16.toUInt32.toInt32)), .val (.int (p3 &&& (65535 : Int32))), .val (.int ((f0_s0_113 p3).toUInt32.toUInt16.toUInt32.toInt32)), .val (.ref b7), .val (.ref b15), .unset, .unset, .unset, .unset, .unset] [(.int (56 : Int32)), (.long q1), (.int ((f0_v6 p4) + (7 : Int32))), (.ref b15)])) _
    refine XS.lushr X276.here hx rfl (hb hby at_446) rfl ?_
    show Steps p.tables e below (T276.setTop (mkF m 447 #[.val (.long q1), .second, .val (.int p2), .val (.int p3), .val (.int p4), .val (.int p5), .val (.int p6), .val (.int (f0_v6 p4)), .val (.int (f0_v16 p5)), .val (.int (f0_s0_31 p6)), .val (.int (f0_s0_45 p6)), .val (.int (f0_v54 p6)), .val (.long (f0_s0_78 p5)), .second, .val (.int (p2.toInt8.toInt32)), .val (.int (p2.toUInt32.toUInt16.toUInt32.toInt32)), .val (.int (p3 &&& (65535 : Int32))), .val (.int ((f0_s0_113 p3).toUInt32.toUInt16.toUInt32.toInt32)), .val (.ref b7), .val (.ref b15), .unset, .unset, .unset, .unset, .unset] [(.long ((q1.toUInt64 >>> ((56 : Int32) &&& 0x3f).toInt64.toUInt64).toInt64)), (.int ((f0_v6 p4) + (7 : Int32))), (.ref b15)])) _
    refine X276.ldc2Long hx hown (mvT hZ (hw _ (List.mem_of_getElem? (i := 4) rfl))) (g := (mkF m 447 #[.val (.long q1), .second, .val (.int p2), .val (.int p3), .val (.int p4), .val (.int p5), .val (.int p6), .val (.int (f0_v6 p4)), .val (.int (f0_v16 p5)), .val (.int (f0_s0_31 p6)), .val (.int (f0_s0_45 p6)), .val (.int (f0_v54 p6)), .val (.long (f0_s0_78 p5)), .second, .val (.int (p2.toInt8.toInt32)), .val (.int (p2.toUInt32.toUInt16.toUInt32.toInt32)), .val (.int (p3 &&& (65535 : Int32))), .val (.int ((f0_s0_113 p3).toUInt32.toUInt16.toUInt32.toInt32)), .val (.ref b7), .val (.ref b15), .unset, .unset, .unset, .unset, .unset] [(.long ((q1.toUInt64 >>> ((56 : Int32) &&& 0x3f).toInt64.toUInt64).toInt64)), (.int ((f0_v6 p4) + (7 : Int32))), (.ref b15)])) rfl (hb hby at_447) _ ?_
    show Steps p.tables e below (T276.setTop (mkF m 450 #[.val (.long q1), .second, .val (.int p2), .val (.int p3), .val (.int p4), .val (.int p5), .val (.int p6), .val (.int (f0_v6 p4)), .val (.int (f0_v16 p5)), .val (.int (f0_s0_31 p6)), .val (.int (f0_s0_45 p6)), .val (.int (f0_v54 p6)), .val (.long (f0_s0_78 p5)), .second, .val (.int (p2.toInt8.toInt32)), .val (.int (p2.toUInt32.toUInt16.toUInt32.toInt32)), .val (.int (p3 &&& (65535 : Int32))), .val (.int ((f0_s0_113 p3).toUInt32.toUInt16.toUInt32.toInt32)), .val (.ref b7), .val (.ref b15), .unset, .unset, .unset, .unset, .unset] [(.long (127 : Int64)), (.long ((q1.toUInt64 >>> ((56 : Int32) &&& 0x3f).toInt64.toUInt64).toInt64)), (.int ((f0_v6 p4) + (7 : Int32))), (.ref b15)])) _
    refine XS.land X276.here hx rfl (hb hby at_450) rfl ?_
    show Steps p.tables e below (T276.setTop (mkF m 451 #[.val (.long q1), .second, .val (.int p2), .val (.int p3), .val (.int p4), .val (.int p5), .val (.int p6), .val (.int (f0_v6 p4)), .val (.int (f0_v16 p5)), .val (.int (f0_s0_31 p6)), .val (.int (f0_s0_45 p6)), .val (.int (f0_v54 p6)), .val (.long (f0_s0_78 p5)), .second, .val (.int (p2.toInt8.toInt32)), .val (.int (p2.toUInt32.toUInt16.toUInt32.toInt32)), .val (.int (p3 &&& (65535 : Int32))), .val (.int ((f0_s0_113 p3).toUInt32.toUInt16.toUInt32.toInt32)), .val (.ref b7), .val (.ref b15), .unset, .unset, .unset, .unset, .unset] [(.long (((q1.toUInt64 >>> ((56 : Int32) &&& 0x3f).toInt64.toUInt64).toInt64) &&& (127 : Int64))), (.int ((f0_v6 p4) + (7 : Int32))), (.ref b15)])) _
    refine XS.l2i X276.here hx rfl (hb hby at_451) rfl ?_
    show Steps p.tables e below (T276.setTop (mkF m 452 #[.val (.long q1), .second, .val (.int p2), .val (.int p3), .val (.int p4), .val (.int p5), .val (.int p6), .val (.int (f0_v6 p4)), .val (.int (f0_v16 p5)), .val (.int (f0_s0_31 p6)), .val (.int (f0_s0_45 p6)), .val (.int (f0_v54 p6)), .val (.long (f0_s0_78 p5)), .second, .val (.int (p2.toInt8.toInt32)), .val (.int (p2.toUInt32.toUInt16.toUInt32.toInt32)), .val (.int (p3 &&& (65535 : Int32))), .val (.int ((f0_s0_113 p3).toUInt32.toUInt16.toUInt32.toInt32)), .val (.ref b7), .val (.ref b15), .unset, .unset, .unset, .unset, .unset] [(.int ((((q1.toUInt64 >>> ((56 : Int32) &&& 0x3f).toInt64.toUInt64).toInt64) &&& (127 : Int64)).toInt32)), (.int ((f0_v6 p4) + (7 : Int32))), (.ref b15)])) _
    refine XS.i2c X276.here hx rfl (hb hby at_452) rfl ?_
    show Steps p.tables e below (T276.setTop (mkF m 453 #[.val (.long q1), .second, .val (.int p2), .val (.int p3), .val (.int p4), .val (.int p5), .val (.int p6), .val (.int (f0_v6 p4)), .val (.int (f0_v16 p5)), .val (.int (f0_s0_31 p6)), .val (.int (f0_s0_45 p6)), .val (.int (f0_v54 p6)), .val (.long (f0_s0_78 p5)), .second, .val (.int (p2.toInt8.toInt32)), .val (.int (p2.toUInt32.toUInt16.toUInt32.toInt32)), .val (.int (p3 &&& (65535 : Int32))), .val (.int ((f0_s0_113 p3).toUInt32.toUInt16.toUInt32.toInt32)), .val (.ref b7), .val (.ref b15), .unset, .unset, .unset, .unset, .unset] [(.int (((((q1.toUInt64 >>> ((56 : Int32) &&& 0x3f).toInt64.toUInt64).toInt64) &&& (127 : Int64)).toInt32).toUInt32.toUInt16.toUInt32.toInt32)), (.int ((f0_v6 p4) + (7 : Int32))), (.ref b15)])) _
    refine st285 _ ?_
    show Steps p.tables e below (T285.setTop (mkF m 454 #[.val (.long q1), .second, .val (.int p2), .val (.int p3), .val (.int p4), .val (.int p5), .val (.int p6), .val (.int (f0_v6 p4)), .val (.int (f0_v16 p5)), .val (.int (f0_s0_31 p6)), .val (.int (f0_s0_45 p6)), .val (.int (f0_v54 p6)), .val (.long (f0_s0_78 p5)), .second, .val (.int (p2.toInt8.toInt32)), .val (.int (p2.toUInt32.toUInt16.toUInt32.toInt32)), .val (.int (p3 &&& (65535 : Int32))), .val (.int ((f0_s0_113 p3).toUInt32.toUInt16.toUInt32.toInt32)), .val (.ref b7), .val (.ref b15), .unset, .unset, .unset, .unset, .unset] [])) _
    refine XS.iload X285.here hx rfl (hb hby at_454) rfl ?_
    exact k
  obtain ⟨T312, Lmpre18, h303, X312, e312, N312, c304, c305, c306, c307, c308, c309, c310, c311, pre18⟩ : ∃ (T' : State) (L' : List Loc) (h303 : Heap), Stand p l e room_1 s m #[(.long q1), (.int p2), (.int p3), (.int p4), (.int p5), (.int p6)] below meth c T' L' 2 24 ∧ T'.heap = h303 ∧ Fr n0 L' ∧ n0 ≤ h303.size ∧ Sta Z h303 "java/lang/String" "COMPACT_STRINGS" "Z" (.int w_CS) ∧ Sta Z h303 "jdk/internal/util/Preconditions" "SIOOBE_FORMATTER" "Ljava/util/function/BiFunction;" w_SIO ∧ Sta Z h303 "java/lang/StringUTF16" "$assertionsDisabled" "Z" (.int (1 : Int32)) ∧ Sta Z h303 "java/lang/StringUTF16" "HI_BYTE_SHIFT" "I" (.int (0 : Int32)) ∧ Sta Z h303 "java/lang/StringUTF16" "LO_BYTE_SHIFT" "I" (.int (8 : Int32)) ∧ IAr Z h303 b7 .byte (12 : Int32) (f0_v320 q1 p2 p4) ∧ IAr Z h303 b15 .char (12 : Int32) (f0_A_b15_469 q1 p2 p3 p4 p6) ∧ ∀ t, Steps p.tables e below (T'.setTop (mkF m 469 #[.val (.long q1), .second, .val (.int p2), .val (.int p3), .val (.int p4), .val (.int p5), .val (.int p6), .val (.int (f0_v6 p4)), .val (.int (f0_v16 p5)), .val (.int (f0_s0_31 p6)), .val (.int (f0_s0_45 p6)), .val (.int (f0_v54 p6)), .val (.long (f0_s0_78 p5)), .second, .val (.int (p2.toInt8.toInt32)), .val (.int (p2.toUInt32.toUInt16.toUInt32.toInt32)), .val (.int (p3 &&& (65535 : Int32))), .val (.int ((f0_s0_113 p3).toUInt32.toUInt16.toUInt32.toInt32)), .val (.ref b7), .val (.ref b15), .unset, .unset, .unset, .unset, .unset] [])) t → Steps p.tables e below (s₁.setTop (entryFrame m #[(.long q1), (.int p2), (.int p3), (.int p4), (.int p5), (.int p6)] maxLocals)) t := by
    by_cases hc456 : (f0_s0_45 p6) = (0 : Int32)
    · have eq19 := (show (f0_A_b15_469 q1 p2 p3 p4 p6) = (f0_v453 q1 p2 p4) from by unfold f0_A_b15_469; simp only [if_pos hc456])
      refine ⟨T285, _, h285, X285, e285, N285, c286, c287, c288, c289, c290, c291, c292, (by simp only [eq19]; exact c293), fun t k => ?_⟩
      try rw [eq19] at k
      refine pre17 t ?_
      show Steps p.tables e below (T285.setTop (mkF m 456 #[.val (.long q1), .second, .val (.int p2), .val (.int p3), .val (.int p4), .val (.int p5), .val (.int p6), .val (.int (f0_v6 p4)), .val (.int (f0_v16 p5)), .val (.int (f0_s0_31 p6)), .val (.int (f0_s0_45 p6)), .val (.int (f0_v54 p6)), .val (.long (f0_s0_78 p5)), .second, .val (.int (p2.toInt8.toInt32)), .val (.int (p2.toUInt32.toUInt16.toUInt32.toInt32)), .val (.int (p3 &&& (65535 : Int32))), .val (.int ((f0_s0_113 p3).toUInt32.toUInt16.toUInt32.toInt32)), .val (.ref b7), .val (.ref b15), .unset, .unset, .unset, .unset, .unset] [(.int (f0_s0_45 p6))])) _
      refine XS.ifYes X285.here hx rfl (pc0 := 456) (pc' := 469) rfl (hb hby at_456) rfl ((if0 _ _).trans (teq hc456).1) (by decide) (by decide) ?_
      exact k
    · obtain ⟨T294, h294, X294, e294, W294, V294, st294⟩ := sC X285 hx hZ e285 c293 (j := ((f0_v6 p4) + (f0_v54 p6))) (own_ixj p4 p6) (g := (mkF m 468 #[.val (.long q1), .second, .val (.int p2), .val (.int p3), .val (.int p4), .val (.int p5), .val (.int p6), .val (.int (f0_v6 p4)), .val (.int (f0_v16 p5)), .val (.int (f0_s0_31 p6)), .val (.int (f0_s0_45 p6)), .val (.int (f0_v54 p6)), .val (.long (f0_s0_78 p5)), .second, .val (.int (p2.toInt8.toInt32)), .val (.int (p2.toUInt32.toUInt16.toUInt32.toInt32)), .val (.int (p3 &&& (65535 : Int32))), .val (.int ((f0_s0_113 p3).toUInt32.toUInt16.toUInt32.toInt32)), .val (.ref b7), .val (.ref b15), .unset, .unset, .unset, .unset, .unset] [(.int ((f0_s0_113 p3).toUInt32.toUInt16.toUInt32.toInt32)), (.int ((f0_v6 p4) + (f0_v54 p6))), (.ref b15)])) rfl rfl (hb hby at_468)
      have N294 := Fr.snoc X294 N285 g_b15
      have c295 : n0 ≤ h294.size := Nat.le_trans c286 (Keep.of_wr W294).1
      have c296 : Sta Z h294 "java/lang/String" "COMPACT_STRINGS" "Z" (.int w_CS) := c287.wr W294
      have c297 : Sta Z h294 "jdk/internal/util/Preconditions" "SIOOBE_FORMATTER" "Ljava/util/function/BiFunction;" w_SIO := c288.wr W294
      have c298 : Sta Z h294 "java/lang/StringUTF16" "$assertionsDisabled" "Z" (.int (1 : Int32)) := c289.wr W294
      have c299 : Sta Z h294 "java/lang/StringUTF16" "HI_BYTE_SHIFT" "I" (.int (0 : Int32)) := c290.wr W294
      have c300 : Sta Z h294 "java/lang/StringUTF16" "LO_BYTE_SHIFT" "I" (.int (8 : Int32)) := c291.wr W294
      have c301 : IAr Z h294 b7 .byte (12 : Int32) (f0_v320 q1 p2 p4) := c292.other W294 ne_b7_b15
      have c302 : IAr Z h294 b15 .char (12 : Int32) (f0_v468 q1 p2 p3 p4 p6) := V294
      have eq20 := (show (f0_A_b15_469 q1 p2 p3 p4 p6) = (f0_v468 q1 p2 p3 p4 p6) from by unfold f0_A_b15_469; simp only [if_neg hc456])
      refine ⟨T294, _, h294, X294, e294, N294, c295, c296, c297, c298, c299, c300, c301, (by simp only [eq20]; exact c302), fun t k => ?_⟩
      try rw [eq20] at k
      refine pre17 t ?_
      show Steps p.tables e below (T285.setTop (mkF m 456 #[.val (.long q1), .second, .val (.int p2), .val (.int p3), .val (.int p4), .val (.int p5), .val (.int p6), .val (.int (f0_v6 p4)), .val (.int (f0_v16 p5)), .val (.int (f0_s0_31 p6)), .val (.int (f0_s0_45 p6)), .val (.int (f0_v54 p6)), .val (.long (f0_s0_78 p5)), .second, .val (.int (p2.toInt8.toInt32)), .val (.int (p2.toUInt32.toUInt16.toUInt32.toInt32)), .val (.int (p3 &&& (65535 : Int32))), .val (.int ((f0_s0_113 p3).toUInt32.toUInt16.toUInt32.toInt32)), .val (.ref b7), .val (.ref b15), .unset, .unset, .unset, .unset, .unset] [(.int (f0_s0_45 p6))])) _
      refine XS.ifNo X285.here hx rfl (hb hby at_456) rfl ((if0 _ _).trans (feq hc456).1) ?_
      show Steps p.tables e below (T285.setTop (mkF m 459 #[.val (.long q1), .second, .val (.int p2), .val (.int p3), .val (.int p4), .val (.int p5), .val (.int p6), .val (.int (f0_v6 p4)), .val (.int (f0_v16 p5)), .val (.int (f0_s0_31 p6)), .val (.int (f0_s0_45 p6)), .val (.int (f0_v54 p6)), .val (.long (f0_s0_78 p5)), .second, .val (.int (p2.toInt8.toInt32)), .val (.int (p2.toUInt32.toUInt16.toUInt32.toInt32)), .val (.int (p3 &&& (65535 : Int32))), .val (.int ((f0_s0_113 p3).toUInt32.toUInt16.toUInt32.toInt32)), .val (.ref b7), .val (.ref b15), .unset, .unset, .unset, .unset, .unset] [])) _
      refine XS.aload X285.here hx rfl (hb hby at_459) rfl rfl ?_
      show Steps p.tables e below (T285.setTop (mkF m 461 #[.val (.long q1), .second, .val (.int p2), .val (.int p3), .val (.int p4), .val (.int p5), .val (.int p6), .val (.int (f0_v6 p4)), .val (.int (f0_v16 p5)), .val (.int (f0_s0_31 p6)), .val (.int (f0_s0_45 p6)), .val (.int (f0_v54 p6)), .val (.long (f0_s0_78 p5)), .second, .val (.int (p2.toInt8.toInt32)), .val (.int (p2.toUInt32.toUInt16.toUInt32.toInt32)), .val (.int (p3 &&& (65535 : Int32))), .val (.int ((f0_s0_113 p3).toUInt32.toUInt16.toUInt32.toInt32)), .val (.ref b7), .val (.ref b15), .unset, .unset, .unset, .unset, .unset] [(.ref b15)])) _
      refine XS.iload X285.here hx rfl (hb hby at_461) rfl ?_
      show Steps p.tables e below (T285.setTop (mkF m 463 #[.val (.long q1), .second, .val (.int p2), .val (.int p3), .val (.int p4), .val (.int p5), .val (.int p6), .val (.int (f0_v6 p4)), .val (.int (f0_v16 p5)), .val (.int (f0_s0_31 p6)), .val (.int (f0_s0_45 p6)), .val (.int (f0_v54 p6)), .val (.long (f0_s0_78 p5)), .second, .val (.int (p2.toInt8.toInt32)), .val (.int (p2.toUInt32.toUInt16.toUInt32.toInt32)), .val (.int (p3 &&& (65535 : Int32))), .val (.int ((f0_s0_113 p3).toUInt32.toUInt16.toUInt32.toInt32)), .val (.ref b7), .val (.ref b15), .unset, .unset, .unset, .unset, .unset] [(.int (f0_v6 p4)), (.ref b15)])) _
      refine XS.iload X285.here hx rfl (hb hby at_463) rfl ?_
      show Steps p.tables e below (T285.setTop (mkF m 465 #[.val (.long q1), .second, .val (.int p2), .val (.int p3), .val (.int p4), .val (.int p5), .val (.int p6), .val (.int (f0_v6 p4)), .val (.int (f0_v16 p5)), .val (.int (f0_s0_31 p6)), .val (.int (f0_s0_45 p6)), .val (.int (f0_v54 p6)), .val (.long (f0_s0_78 p5)), .second, .val (.int (p2.toInt8.toInt32)), .val (.int (p2.toUInt32.toUInt16.toUInt32.toInt32)), .val (.int (p3 &&& (65535 : Int32))), .val (.int ((f0_s0_113 p3).toUInt32.toUInt16.toUInt32.toInt32)), .val (.ref b7), .val (.ref b15), .unset, .unset, .unset, .unset, .unset] [(.int (f0_v54 p6)), (.int (f0_v6 p4)), (.ref b15)])) _
      refine XS.iadd X285.here hx rfl (hb hby at_465) rfl ?_
      show Steps p.tables e below (T285.setTop (mkF m 466 #[.val (.long q1), .second, .val (.int p2), .val (.int p3), .val (.int p4), .val (.int p5), .val (.int p6), .val (.int (f0_v6 p4)), .val (.int (f0_v16 p5)), .val (.int (f0_s0_31 p6)), .val (.int (f0_s0_45 p6)), .val (.int (f0_v54 p6)), .val (.long (f0_s0_78 p5)), .second, .val (.int (p2.toInt8.toInt32)), .val (.int (p2.toUInt32.toUInt16.toUInt32.toInt32)), .val (.int (p3 &&& (65535 : Int32))), .val (.int ((f0_s0_113 p3).toUInt32.toUInt16.toUInt32.toInt32)), .val (.ref b7), .val (.ref b15), .unset, .unset, .unset, .unset, .unset] [(.int ((f0_v6 p4) + (f0_v54 p6))), (.ref b15)])) _
      refine XS.iload X285.here hx rfl (hb hby at_466) rfl ?_
      show Steps p.tables e below (T285.setTop (mkF m 468 #[.val (.long q1), .second, .val (.int p2), .val (.int p3), .val (.int p4), .val (.int p5), .val (.int p6), .val (.int (f0_v6 p4)), .val (.int (f0_v16 p5)), .val (.int (f0_s0_31 p6)), .val (.int (f0_s0_45 p6)), .val (.int (f0_v54 p6)), .val (.long (f0_s0_78 p5)), .second, .val (.int (p2.toInt8.toInt32)), .val (.int (p2.toUInt32.toUInt16.toUInt32.toInt32)), .val (.int (p3 &&& (65535 : Int32))), .val (.int ((f0_s0_113 p3).toUInt32.toUInt16.toUInt32.toInt32)), .val (.ref b7), .val (.ref b15), .unset, .unset, .unset, .unset, .unset] [(.int ((f0_s0_113 p3).toUInt32.toUInt16.toUInt32.toInt32)), (.int ((f0_v6 p4) + (f0_v54 p6))), (.ref b15)])) _
      refine st294 _ ?_
      exact k
  obtain ⟨T313, h313, X313, e313, E313, A313, D313, -, st313⟩ := newO X312 hx hZ hown (hw _ (List.mem_of_getElem? (i := 5) rfl)) (hw _ (List.mem_of_getElem? (i := 6) rfl)) (hw _ (List.mem_of_getElem? (i := 7) rfl)) e312 (g := (mkF m 469 #[.val (.long q1), .second, .val (.int p2), .val (.int p3), .val (.int p4), .val (.int p5), .val (.int p6), .val (.int (f0_v6 p4)), .val (.int (f0_v16 p5)), .val (.int (f0_s0_31 p6)), .val (.int (f0_s0_45 p6)), .val (.int (f0_v54 p6)), .val (.long (f0_s0_78 p5)), .second, .val (.int (p2.toInt8.toInt32)), .val (.int (p2.toUInt32.toUInt16.toUInt32.toInt32)), .val (.int (p3 &&& (65535 : Int32))), .val (.int ((f0_s0_113 p3).toUInt32.toUInt16.toUInt32.toInt32)), .val (.ref b7), .val (.ref b15), .unset, .unset, .unset, .unset, .unset] [])) rfl (hb hby at_469) (by decide) (by decide)
  obtain ⟨b313, g313⟩ : ∃ z, z = h303.size := ⟨_, rfl⟩
  rw [← g313] at A313 D313 st313
  have ne_b7_b313 : b7 ≠ b313 := Nat.ne_of_lt (Nat.lt_of_lt_of_le c310.lt (Nat.le_of_eq g313.symm))
  have ne_b15_b313 : b15 ≠ b313 := Nat.ne_of_lt (Nat.lt_of_lt_of_le c311.lt (Nat.le_of_eq g313.symm))
  have g_b313 : n0 ≤ b313 := Nat.le_trans c304 (Nat.le_of_eq g313.symm)
  have c314 : n0 ≤ h313.size := Nat.le_trans c304 E313.1
  have c315 : Sta Z h313 "java/lang/String" "COMPACT_STRINGS" "Z" (.int w_CS) := c305.ext E313
  have c316 : Sta Z h313 "jdk/internal/util/Preconditions" "SIOOBE_FORMATTER" "Ljava/util/function/BiFunction;" w_SIO := c306.ext E313
  have c317 : Sta Z h313 "java/lang/StringUTF16" "$assertionsDisabled" "Z" (.int (1 : Int32)) := c307.ext E313
  have c318 : Sta Z h313 "java/lang/StringUTF16" "HI_BYTE_SHIFT" "I" (.int (0 : Int32)) := c308.ext E313
  have c319 : Sta Z h313 "java/lang/StringUTF16" "LO_BYTE_SHIFT" "I" (.int (8 : Int32)) := c309.ext E313
  have c320 : IAr Z h313 b7 .byte (12 : Int32) (f0_v320 q1 p2 p4) := c310.ext E313
  have c321 : IAr Z h313 b15 .char (12 : Int32) (f0_A_b15_469 q1 p2 p3 p4 p6) := c311.ext E313
  have c322 : Fld Z h313 b313 "java/lang/String" "coder" "B" (.int (0 : Int32)) := D313 (Or.inr (hw _ (List.mem_of_getElem? (i := 30) rfl))) (ty := .byte) (by decide)
  have c323 : Fld Z h313 b313 "java/lang/String" "value" "[B" .null := D313 (Or.inr (hw _ (List.mem_of_getElem? (i := 32) rfl))) (ty := (.array .byte)) (by decide)
  obtain ⟨_, _, ⟨T324, L324, k324, n324⟩, -, X324, ⟨Lc324, hQ324, l324, y324, z324⟩, st324⟩ := X313.specialBack hx (y := (⟨"java/lang/String", "<init>", "([C)V"⟩ : MethodName)) rfl hown (mvT hZ (hw _ (List.mem_of_getElem? (i := 8) rfl))) (mvT hZ (hw _ (List.mem_of_getElem? (i := 9) rfl))) (mvT hZ (hw _ (List.mem_of_getElem? (i := 10) rfl))) (by decide) (backOf (W := 1) (rm1 l Z a0 hw [] b313 b15 (0 : Int32) (12 : Int32) (f0_A_b15_469 q1 p2 p3 p4 p6) w_CS h313 n0 c314 A313 g_b313 c323 c322 c321 (Ne.symm ne_b15_b313) c315 hcs c317 c318 c319 rfl (own_chars q1 p2 p3 p4 p6)) hZ (hw _ (List.mem_of_getElem? (i := 10) rfl)) (hw _ (List.mem_of_getElem? (i := 7) rfl)) (by decide) (by decide)) (g := (mkF m 475 #[.val (.long q1), .second, .val (.int p2), .val (.int p3), .val (.int p4), .val (.int p5), .val (.int p6), .val (.int (f0_v6 p4)), .val (.int (f0_v16 p5)), .val (.int (f0_s0_31 p6)), .val (.int (f0_s0_45 p6)), .val (.int (f0_v54 p6)), .val (.long (f0_s0_78 p5)), .second, .val (.int (p2.toInt8.toInt32)), .val (.int (p2.toUInt32.toUInt16.toUInt32.toInt32)), .val (.int (p3 &&& (65535 : Int32))), .val (.int ((f0_s0_113 p3).toUInt32.toUInt16.toUInt32.toInt32)), .val (.ref b7), .val (.ref b15), .unset, .unset, .unset, .unset, .unset] [(.ref b15), (.ref b313), (.ref b313)])) rfl (by rw [hml]; rfl) (Steps.refl _) (a := b313) (argsL := [(.ref b15)]) (rest := [(.ref b313)]) (lenOf pd_14 rfl) rfl (by show 2 * 0 + _ ≤ _; exact Nat.le_of_eq rfl) (hb hby at_475) (fun _ _ => ⟨rfl, e313, (by decide : 3 + 2 ≤ _), (by decide : 28 + 36 ≤ _)⟩)
  dsimp only [Pt.U, Pt.locs, Pt.cells, Pt.slots] at X324 l324 y324 z324 st324 hQ324
  subst l324 y324 z324
  obtain ⟨r324_0, rfl, N324q, K324, o324_0, zz324_0, va324_0, vf324_0⟩ := hQ324
  have N324 := Fr.app N312 N324q
  have ne_b7_r324_0 : b7 ≠ r324_0 := Nat.ne_of_lt (Nat.lt_of_lt_of_le c320.lt zz324_0)
  have ne_b15_r324_0 : b15 ≠ r324_0 := Nat.ne_of_lt (Nat.lt_of_lt_of_le c321.lt zz324_0)
  have ne_b313_r324_0 : b313 ≠ r324_0 := Nat.ne_of_lt (Nat.lt_of_lt_of_le A313.lt zz324_0)
  have g_r324_0 : n0 ≤ r324_0 := Nat.le_trans c314 zz324_0
  have c325 : n0 ≤ T324.heap.size := Nat.le_trans c314 K324.1
  have c326 : Sta Z T324.heap "java/lang/String" "COMPACT_STRINGS" "Z" (.int w_CS) := own_staK c315 K324 (own_nsS (Exa.nostat A313) own_ns0)
  have c327 : Sta Z T324.heap "jdk/internal/util/Preconditions" "SIOOBE_FORMATTER" "Ljava/util/function/BiFunction;" w_SIO := own_staK c316 K324 (own_nsS (Exa.nostat A313) own_ns0)
  have c328 : Sta Z T324.heap "java/lang/StringUTF16" "$assertionsDisabled" "Z" (.int (1 : Int32)) := own_staK c317 K324 (own_nsS (Exa.nostat A313) own_ns0)
  have c329 : Sta Z T324.heap "java/lang/StringUTF16" "HI_BYTE_SHIFT" "I" (.int (0 : Int32)) := own_staK c318 K324 (own_nsS (Exa.nostat A313) own_ns0)
  have c330 : Sta Z T324.heap "java/lang/StringUTF16" "LO_BYTE_SHIFT" "I" (.int (8 : Int32)) := own_staK c319 K324 (own_nsS (Exa.nostat A313) own_ns0)
  have c331 : IAr Z T324.heap b7 .byte (12 : Int32) (f0_v320 q1 p2 p4) := c320.keep K324 (ninS ne_b7_b313 nin0)
  have c332 : IAr Z T324.heap b15 .char (12 : Int32) (f0_A_b15_469 q1 p2 p3 p4 p6) := c321.keep K324 (ninS ne_b15_b313 nin0)
  have c333 : Exa Z T324.heap b313 "java/lang/String" := A313.keep K324
  have c334 : Fld Z T324.heap b313 "java/lang/String" "coder" "B" (.int (f1_o0 (0 : Int32) (12 : Int32) (f0_A_b15_469 q1 p2 p3 p4 p6) w_CS)) := o324_0
  have c335 : Fld Z T324.heap b313 "java/lang/String" "value" "[B" (.ref r324_0) := vf324_0
  have pre21 : ∀ t, Steps p.tables e below (T324.setTop (mkF m 484 #[.val (.long q1), .second, .val (.int p2), .val (.int p3), .val (.int p4), .val (.int p5), .val (.int p6), .val (.int (f0_v6 p4)), .val (.int (f0_v16 p5)), .val (.int (f0_s0_31 p6)), .val (.int (f0_s0_45 p6)), .val (.int (f0_v54 p6)), .val (.long (f0_s0_78 p5)), .second, .val (.int (p2.toInt8.toInt32)), .val (.int (p2.toUInt32.toUInt16.toUInt32.toInt32)), .val (.int (p3 &&& (65535 : Int32))), .val (.int ((f0_s0_113 p3).toUInt32.toUInt16.toUInt32.toInt32)), .val (.ref b7), .val (.ref b15), .val (.ref b313), .unset, .unset, .unset, .unset] [(.int (f0_s0_31 p6)), (.ref b313)])) t → Steps p.tables e below (s₁.setTop (entryFrame m #[(.long q1), (.int p2), (.int p3), (.int p4), (.int p5), (.int p6)] maxLocals)) t := by
    intro t k
    refine pre18 t ?_
    show Steps p.tables e below (T312.setTop (mkF m 469 #[.val (.long q1), .second, .val (.int p2), .val (.int p3), .val (.int p4), .val (.int p5), .val (.int p6), .val (.int (f0_v6 p4)), .val (.int (f0_v16 p5)), .val (.int (f0_s0_31 p6)), .val (.int (f0_s0_45 p6)), .val (.int (f0_v54 p6)), .val (.long (f0_s0_78 p5)), .second, .val (.int (p2.toInt8.toInt32)), .val (.int (p2.toUInt32.toUInt16.toUInt32.toInt32)), .val (.int (p3 &&& (65535 : Int32))), .val (.int ((f0_s0_113 p3).toUInt32.toUInt16.toUInt32.toInt32)), .val (.ref b7), .val (.ref b15), .unset, .unset, .unset, .unset, .unset] [])) _
    refine st313 _ ?_
    show Steps p.tables e below (T313.setTop (mkF m 472 #[.val (.long q1), .second, .val (.int p2), .val (.int p3), .val (.int p4), .val (.int p5), .val (.int p6), .val (.int (f0_v6 p4)), .val (.int (f0_v16 p5)), .val (.int (f0_s0_31 p6)), .val (.int (f0_s0_45 p6)), .val (.int (f0_v54 p6)), .val (.long (f0_s0_78 p5)), .second, .val (.int (p2.toInt8.toInt32)), .val (.int (p2.toUInt32.toUInt16.toUInt32.toInt32)), .val (.int (p3 &&& (65535 : Int32))), .val (.int ((f0_s0_113 p3).toUInt32.toUInt16.toUInt32.toInt32)), .val (.ref b7), .val (.ref b15), .unset, .unset, .unset, .unset, .unset] [(.ref b313)])) _
    refine XS.dup X313.here hx rfl (hb hby at_472) rfl rfl ?_
    show Steps p.tables e below (T313.setTop (mkF m 473 #[.val (.long q1), .second, .val (.int p2), .val (.int p3), .val (.int p4), .val (.int p5), .val (.int p6), .val (.int (f0_v6 p4)), .val (.int (f0_v16 p5)), .val (.int (f0_s0_31 p6)), .val (.int (f0_s0_45 p6)), .val (.int (f0_v54 p6)), .val (.long (f0_s0_78 p5)), .second, .val (.int (p2.toInt8.toInt32)), .val (.int (p2.toUInt32.toUInt16.toUInt32.toInt32)), .val (.int (p3 &&& (65535 : Int32))), .val (.int ((f0_s0_113 p3).toUInt32.toUInt16.toUInt32.toInt32)), .val (.ref b7), .val (.ref b15), .unset, .unset, .unset, .unset, .unset] [(.ref b313), (.ref b313)])) _
    refine XS.aload X313.here hx rfl (hb hby at_473) rfl rfl ?_
    show Steps p.tables e below (T313.setTop (mkF m 475 #[.val (.long q1), .second, .val (.int p2), .val (.int p3), .val (.int p4), .val (.int p5), .val (.int p6), .val (.int (f0_v6 p4)), .val (.int (f0_v16 p5)), .val (.int (f0_s0_31 p6)), .val (.int (f0_s0_45 p6)), .val (.int (f0_v54 p6)), .val (.long (f0_s0_78 p5)), .second, .val (.int (p2.toInt8.toInt32)), .val (.int (p2.toUInt32.toUInt16.toUInt32.toInt32)), .val (.int (p3 &&& (65535 : Int32))), .val (.int ((f0_s0_113 p3).toUInt32.toUInt16.toUInt32.toInt32)), .val (.ref b7), .val (.ref b15), .unset, .unset, .unset, .unset, .unset] [(.ref b15), (.ref b313), (.ref b313)])) _
    refine st324.trans ?_
    show Steps p.tables e below (T324.setTop (mkF m 478 #[.val (.long q1), .second, .val (.int p2), .val (.int p3), .val (.int p4), .val (.int p5), .val (.int p6), .val (.int (f0_v6 p4)), .val (.int (f0_v16 p5)), .val (.int (f0_s0_31 p6)), .val (.int (f0_s0_45 p6)), .val (.int (f0_v54 p6)), .val (.long (f0_s0_78 p5)), .second, .val (.int (p2.toInt8.toInt32)), .val (.int (p2.toUInt32.toUInt16.toUInt32.toInt32)), .val (.int (p3 &&& (65535 : Int32))), .val (.int ((f0_s0_113 p3).toUInt32.toUInt16.toUInt32.toInt32)), .val (.ref b7), .val (.ref b15), .unset, .unset, .unset, .unset, .unset] [(.ref b313)])) _
    refine XS.astore X324.here hx rfl (hb hby at_478) rfl rfl (l' := #[.val (.long q1), .second, .val (.int p2), .val (.int p3), .val (.int p4), .val (.int p5), .val (.int p6), .val (.int (f0_v6 p4)), .val (.int (f0_v16 p5)), .val (.int (f0_s0_31 p6)), .val (.int (f0_s0_45 p6)), .val (.int (f0_v54 p6)), .val (.long (f0_s0_78 p5)), .second, .val (.int (p2.toInt8.toInt32)), .val (.int (p2.toUInt32.toUInt16.toUInt32.toInt32)), .val (.int (p3 &&& (65535 : Int32))), .val (.int ((f0_s0_113 p3).toUInt32.toUInt16.toUInt32.toInt32)), .val (.ref b7), .val (.ref b15), .val (.ref b313), .unset, .unset, .unset, .unset]) rfl ?_
    show Steps p.tables e below (T324.setTop (mkF m 480 #[.val (.long q1), .second, .val (.int p2), .val (.int p3), .val (.int p4), .val (.int p5), .val (.int p6), .val (.int (f0_v6 p4)), .val (.int (f0_v16 p5)), .val (.int (f0_s0_31 p6)), .val (.int (f0_s0_45 p6)), .val (.int (f0_v54 p6)), .val (.long (f0_s0_78 p5)), .second, .val (.int (p2.toInt8.toInt32)), .val (.int (p2.toUInt32.toUInt16.toUInt32.toInt32)), .val (.int (p3 &&& (65535 : Int32))), .val (.int ((f0_s0_113 p3).toUInt32.toUInt16.toUInt32.toInt32)), .val (.ref b7), .val (.ref b15), .val (.ref b313), .unset, .unset, .unset, .unset] [])) _
    refine XS.aload X324.here hx rfl (hb hby at_480) rfl rfl ?_
    show Steps p.tables e below (T324.setTop (mkF m 482 #[.val (.long q1), .second, .val (.int p2), .val (.int p3), .val (.int p4), .val (.int p5), .val (.int p6), .val (.int (f0_v6 p4)), .val (.int (f0_v16 p5)), .val (.int (f0_s0_31 p6)), .val (.int (f0_s0_45 p6)), .val (.int (f0_v54 p6)), .val (.long (f0_s0_78 p5)), .second, .val (.int (p2.toInt8.toInt32)), .val (.int (p2.toUInt32.toUInt16.toUInt32.toInt32)), .val (.int (p3 &&& (65535 : Int32))), .val (.int ((f0_s0_113 p3).toUInt32.toUInt16.toUInt32.toInt32)), .val (.ref b7), .val (.ref b15), .val (.ref b313), .unset, .unset, .unset, .unset] [(.ref b313)])) _
    refine XS.iload X324.here hx rfl (hb hby at_482) rfl ?_
    exact k
  by_cases hc484 : (f0_s0_31 p6) = (0 : Int32)
  · obtain ⟨_, _, ⟨T336, L336, k336, n336⟩, -, X336, ⟨Lc336, hQ336, l336, y336, z336⟩, st336⟩ := Jvm.LawKit.callS X324 hx (y := (⟨"com/example/ringward/ringward/Utf8", "littleEndian", "(Ljava/lang/String;[BII)J"⟩ : MethodName)) hown (mvT hZ (hw _ (List.mem_of_getElem? (i := 33) rfl))) (mvT hZ (hw _ (List.mem_of_getElem? (i := 34) rfl))) (mvT hZ (hw _ (List.mem_of_getElem? (i := 35) rfl))) (mvT hZ (hw _ (List.mem_of_getElem? (i := 36) rfl))) (by decide) (backOf (W := 0) (rm7n l Z a0 hw [] b313 (f0_v6 p4) (f0_v16 p5) w_CS (f1_o0 (0 : Int32) (12 : Int32) (f0_A_b15_469 q1 p2 p3 p4 p6) w_CS) r324_0 (f1_x0n (0 : Int32) (12 : Int32) (f0_A_b15_469 q1 p2 p3 p4 p6) w_CS) (f1_x0c (0 : Int32) (12 : Int32) (f0_A_b15_469 q1 p2 p3 p4 p6) w_CS) w_SIO T324.heap n0 c325 c333 c326 hcs c334 c335 va324_0 c327 hcat c328 c329 c330 (own_sc p4 p5 (own_cl hcs (own_chars q1 p2 p3 p4 p6)))) hZ (hw _ (List.mem_of_getElem? (i := 36) rfl)) (hw _ (List.mem_of_getElem? (i := 35) rfl)) (by decide) (by decide)) (g := (mkF m 497 #[.val (.long q1), .second, .val (.int p2), .val (.int p3), .val (.int p4), .val (.int p5), .val (.int p6), .val (.int (f0_v6 p4)), .val (.int (f0_v16 p5)), .val (.int (f0_s0_31 p6)), .val (.int (f0_s0_45 p6)), .val (.int (f0_v54 p6)), .val (.long (f0_s0_78 p5)), .second, .val (.int (p2.toInt8.toInt32)), .val (.int (p2.toUInt32.toUInt16.toUInt32.toInt32)), .val (.int (p3 &&& (65535 : Int32))), .val (.int ((f0_s0_113 p3).toUInt32.toUInt16.toUInt32.toInt32)), .val (.ref b7), .val (.ref b15), .val (.ref b313), .unset, .unset, .unset, .unset] [(.int (f0_v16 p5)), (.int (f0_v6 p4)), .null, (.ref b313)])) rfl (by rw [hml]; rfl) (argsL := [(.ref b313), .null, (.int (f0_v6 p4)), (.int (f0_v16 p5))]) (rest := []) (lenOf pd_15 rfl) rfl (by show 2 * 0 + _ ≤ _; exact Nat.le_of_eq rfl) (hb hby at_497) (fun _ _ => ⟨rfl, rfl, (by decide : 5 + 0 ≤ _), (by decide : 64 + 0 ≤ _)⟩)
    dsimp only [Pt.U, Pt.locs, Pt.cells, Pt.slots] at X336 l336 y336 z336 st336 hQ336
    subst l336 y336 z336
    obtain ⟨rfl, N336q, e336⟩ := hQ336
    have N336 := Fr.app N324 N336q
    have pre22 : ∀ t, Steps p.tables e below (T336.setTop (mkF m 518 #[.val (.long q1), .second, .val (.int p2), .val (.int p3), .val (.int p4), .val (.int p5), .val (.int p6), .val (.int (f0_v6 p4)), .val (.int (f0_v16 p5)), .val (.int (f0_s0_31 p6)), .val (.int (f0_s0_45 p6)), .val (.int (f0_v54 p6)), .val (.long (f0_s0_78 p5)), .second, .val (.int (p2.toInt8.toInt32)), .val (.int (p2.toUInt32.toUInt16.toUInt32.toInt32)), .val (.int (p3 &&& (65535 : Int32))), .val (.int ((f0_s0_113 p3).toUInt32.toUInt16.toUInt32.toInt32)), .val (.ref b7), .val (.ref b15), .val (.ref b313), .val (.long (f7n (f0_v6 p4) (f0_v16 p5) w_CS (f1_o0 (0 : Int32) (12 : Int32) (f0_A_b15_469 q1 p2 p3 p4 p6) w_CS) (f1_x0n (0 : Int32) (12 : Int32) (f0_A_b15_469 q1 p2 p3 p4 p6) w_CS) (f1_x0c (0 : Int32) (12 : Int32) (f0_A_b15_469 q1 p2 p3 p4 p6) w_CS))), .second, .unset, .unset] [(.int (f0_s0_45 p6))])) t → Steps p.tables e below (s₁.setTop (entryFrame m #[(.long q1), (.int p2), (.int p3), (.int p4), (.int p5), (.int p6)] maxLocals)) t := by
      intro t k
      refine pre21 t ?_
      show Steps p.tables e below (T324.setTop (mkF m 484 #[.val (.long q1), .second, .val (.int p2), .val (.int p3), .val (.int p4), .val (.int p5), .val (.int p6), .val (.int (f0_v6 p4)), .val (.int (f0_v16 p5)), .val (.int (f0_s0_31 p6)), .val (.int (f0_s0_45 p6)), .val (.int (f0_v54 p6)), .val (.long (f0_s0_78 p5)), .second, .val (.int (p2.toInt8.toInt32)), .val (.int (p2.toUInt32.toUInt16.toUInt32.toInt32)), .val (.int (p3 &&& (65535 : Int32))), .val (.int ((f0_s0_113 p3).toUInt32.toUInt16.toUInt32.toInt32)), .val (.ref b7), .val (.ref b15), .val (.ref b313), .unset, .unset, .unset, .unset] [(.int (f0_s0_31 p6)), (.ref b313)])) _
      refine XS.ifYes X324.here hx rfl (pc0 := 484) (pc' := 492) rfl (hb hby at_484) rfl ((if0 _ _).trans (teq hc484).1) (by decide) (by decide) ?_
      show Steps p.tables e below (T324.setTop (mkF m 492 #[.val (.long q1), .second, .val (.int p2), .val (.int p3), .val (.int p4), .val (.int p5), .val (.int p6), .val (.int (f0_v6 p4)), .val (.int (f0_v16 p5)), .val (.int (f0_s0_31 p6)), .val (.int (f0_s0_45 p6)), .val (.int (f0_v54 p6)), .val (.long (f0_s0_78 p5)), .second, .val (.int (p2.toInt8.toInt32)), .val (.int (p2.toUInt32.toUInt16.toUInt32.toInt32)), .val (.int (p3 &&& (65535 : Int32))), .val (.int ((f0_s0_113 p3).toUInt32.toUInt16.toUInt32.toInt32)), .val (.ref b7), .val (.ref b15), .val (.ref b313), .unset, .unset, .unset, .unset] [(.ref b313)])) _
      refine XS.aconstNull X324.here hx rfl (hb hby at_492) ?_
      show Steps p.tables e below (T324.setTop (mkF m 493 #[.val (.long q1), .second, .val (.int p2), .val (.int p3), .val (.int p4), .val (.int p5), .val (.int p6), .val (.int (f0_v6 p4)), .val (.int (f0_v16 p5)), .val (.int (f0_s0_31 p6)), .val (.int (f0_s0_45 p6)), .val (.int (f0_v54 p6)), .val (.long (f0_s0_78 p5)), .second, .val (.int (p2.toInt8.toInt32)), .val (.int (p2.toUInt32.toUInt16.toUInt32.toInt32)), .val (.int (p3 &&& (65535 : Int32))), .val (.int ((f0_s0_113 p3).toUInt32.toUInt16.toUInt32.toInt32)), .val (.ref b7), .val (.ref b15), .val (.ref b313), .unset, .unset, .unset, .unset] [.null, (.ref b313)])) _
      refine XS.iload X324.here hx rfl (hb hby at_493) rfl ?_
      show Steps p.tables e below (T324.setTop (mkF m 495 #[.val (.long q1), .second, .val (.int p2), .val (.int p3), .val (.int p4), .val (.int p5), .val (.int p6), .val (.int (f0_v6 p4)), .val (.int (f0_v16 p5)), .val (.int (f0_s0_31 p6)), .val (.int (f0_s0_45 p6)), .val (.int (f0_v54 p6)), .val (.long (f0_s0_78 p5)), .second, .val (.int (p2.toInt8.toInt32)), .val (.int (p2.toUInt32.toUInt16.toUInt32.toInt32)), .val (.int (p3 &&& (65535 : Int32))), .val (.int ((f0_s0_113 p3).toUInt32.toUInt16.toUInt32.toInt32)), .val (.ref b7), .val (.ref b15), .val (.ref b313), .unset, .unset, .unset, .unset] [(.int (f0_v6 p4)), .null, (.ref b313)])) _
      refine XS.iload X324.here hx rfl (hb hby at_495) rfl ?_
      show Steps p.tables e below (T324.setTop (mkF m 497 #[.val (.long q1), .second, .val (.int p2), .val (.int p3), .val (.int p4), .val (.int p5), .val (.int p6), .val (.int (f0_v6 p4)), .val (.int (f0_v16 p5)), .val (.int (f0_s0_31 p6)), .val (.int (f0_s0_45 p6)), .val (.int (f0_v54 p6)), .val (.long (f0_s0_78 p5)), .second, .val (.int (p2.toInt8.toInt32)), .val (.int (p2.toUInt32.toUInt16.toUInt32.toInt32)), .val (.int (p3 &&& (65535 : Int32))), .val (.int ((f0_s0_113 p3).toUInt32.toUInt16.toUInt32.toInt32)), .val (.ref b7), .val (.ref b15), .val (.ref b313), .unset, .unset, .unset, .unset] [(.int (f0_v16 p5)), (.int (f0_v6 p4)), .null, (.ref b313)])) _
      refine st336 _ ?_
      show Steps p.tables e below (T336.setTop (mkF m 500 #[.val (.long q1), .second, .val (.int p2), .val (.int p3), .val (.int p4), .val (.int p5), .val (.int p6), .val (.int (f0_v6 p4)), .val (.int (f0_v16 p5)), .val (.int (f0_s0_31 p6)), .val (.int (f0_s0_45 p6)), .val (.int (f0_v54 p6)), .val (.long (f0_s0_78 p5)), .second, .val (.int (p2.toInt8.toInt32)), .val (.int (p2.toUInt32.toUInt16.toUInt32.toInt32)), .val (.int (p3 &&& (65535 : Int32))), .val (.int ((f0_s0_113 p3).toUInt32.toUInt16.toUInt32.toInt32)), .val (.ref b7), .val (.ref b15), .val (.ref b313), .unset, .unset, .unset, .unset] [(.long (f7n (f0_v6 p4) (f0_v16 p5) w_CS (f1_o0 (0 : Int32) (12 : Int32) (f0_A_b15_469 q1 p2 p3 p4 p6) w_CS) (f1_x0n (0 : Int32) (12 : Int32) (f0_A_b15_469 q1 p2 p3 p4 p6) w_CS) (f1_x0c (0 : Int32) (12 : Int32) (f0_A_b15_469 q1 p2 p3 p4 p6) w_CS)))])) _
      refine XS.lstore X336.here hx rfl (hb hby at_500) rfl (l' := #[.val (.long q1), .second, .val (.int p2), .val (.int p3), .val (.int p4), .val (.int p5), .val (.int p6), .val (.int (f0_v6 p4)), .val (.int (f0_v16 p5)), .val (.int (f0_s0_31 p6)), .val (.int (f0_s0_45 p6)), .val (.int (f0_v54 p6)), .val (.long (f0_s0_78 p5)), .second, .val (.int (p2.toInt8.toInt32)), .val (.int (p2.toUInt32.toUInt16.toUInt32.toInt32)), .val (.int (p3 &&& (65535 : Int32))), .val (.int ((f0_s0_113 p3).toUInt32.toUInt16.toUInt32.toInt32)), .val (.ref b7), .val (.ref b15), .val (.ref b313), .val (.long (f7n (f0_v6 p4) (f0_v16 p5) w_CS (f1_o0 (0 : Int32) (12 : Int32) (f0_A_b15_469 q1 p2 p3 p4 p6) w_CS) (f1_x0n (0 : Int32) (12 : Int32) (f0_A_b15_469 q1 p2 p3 p4 p6) w_CS) (f1_x0c (0 : Int32) (12 : Int32) (f0_A_b15_469 q1 p2 p3 p4 p6) w_CS))), .second, .unset, .unset]) rfl ?_
      show Steps p.tables e below (T336.setTop (mkF m 502 #[.val (.long q1), .second, .val (.int p2), .val (.int p3), .val (.int p4), .val (.int p5), .val (.int p6), .val (.int (f0_v6 p4)), .val (.int (f0_v16 p5)), .val (.int (f0_s0_31 p6)), .val (.int (f0_s0_45 p6)), .val (.int (f0_v54 p6)), .val (.long (f0_s0_78 p5)), .second, .val (.int (p2.toInt8.toInt32)), .val (.int (p2.toUInt32.toUInt16.toUInt32.toInt32)), .val (.int (p3 &&& (65535 : Int32))), .val (.int ((f0_s0_113 p3).toUInt32.toUInt16.toUInt32.toInt32)), .val (.ref b7), .val (.ref b15), .val (.ref b313), .val (.long (f7n (f0_v6 p4) (f0_v16 p5) w_CS (f1_o0 (0 : Int32) (12 : Int32) (f0_A_b15_469 q1 p2 p3 p4 p6) w_CS) (f1_x0n (0 : Int32) (12 : Int32) (f0_A_b15_469 q1 p2 p3 p4 p6) w_CS) (f1_x0c (0 : Int32) (12 : Int32) (f0_A_b15_469 q1 p2 p3 p4 p6) w_CS))), .second, .unset, .unset] [])) _
      refine XS.iload X336.here hx rfl (hb hby at_502) rfl ?_
      show Steps p.tables e below (T336.setTop (mkF m 504 #[.val (.long q1), .second, .val (.int p2), .val (.int p3), .val (.int p4), .val (.int p5), .val (.int p6), .val (.int (f0_v6 p4)), .val (.int (f0_v16 p5)), .val (.int (f0_s0_31 p6)), .val (.int (f0_s0_45 p6)), .val (.int (f0_v54 p6)), .val (.long (f0_s0_78 p5)), .second, .val (.int (p2.toInt8.toInt32)), .val (.int (p2.toUInt32.toUInt16.toUInt32.toInt32)), .val (.int (p3 &&& (65535 : Int32))), .val (.int ((f0_s0_113 p3).toUInt32.toUInt16.toUInt32.toInt32)), .val (.ref b7), .val (.ref b15), .val (.ref b313), .val (.long (f7n (f0_v6 p4) (f0_v16 p5) w_CS (f1_o0 (0 : Int32) (12 : Int32) (f0_A_b15_469 q1 p2 p3 p4 p6) w_CS) (f1_x0n (0 : Int32) (12 : Int32) (f0_A_b15_469 q1 p2 p3 p4 p6) w_CS) (f1_x0c (0 : Int32) (12 : Int32) (f0_A_b15_469 q1 p2 p3 p4 p6) w_CS))), .second, .unset, .unset] [(.int (f0_s0_31 p6))])) _
      refine XS.ifYes X336.here hx rfl (pc0 := 504) (pc' := 516) rfl (hb hby at_504) rfl ((if0 _ _).trans (teq hc484).1) (by decide) (by decide) ?_
      show Steps p.tables e below (T336.setTop (mkF m 516 #[.val (.long q1), .second, .val (.int p2), .val (.int p3), .val (.int p4), .val (.int p5), .val (.int p6), .val (.int (f0_v6 p4)), .val (.int (f0_v16 p5)), .val (.int (f0_s0_31 p6)), .val (.int (f0_s0_45 p6)), .val (.int (f0_v54 p6)), .val (.long (f0_s0_78 p5)), .second, .val (.int (p2.toInt8.toInt32)), .val (.int (p2.toUInt32.toUInt16.toUInt32.toInt32)), .val (.int (p3 &&& (65535 : Int32))), .val (.int ((f0_s0_113 p3).toUInt32.toUInt16.toUInt32.toInt32)), .val (.ref b7), .val (.ref b15), .val (.ref b313), .val (.long (f7n (f0_v6 p4) (f0_v16 p5) w_CS (f1_o0 (0 : Int32) (12 : Int32) (f0_A_b15_469 q1 p2 p3 p4 p6) w_CS) (f1_x0n (0 : Int32) (12 : Int32) (f0_A_b15_469 q1 p2 p3 p4 p6) w_CS) (f1_x0c (0 : Int32) (12 : Int32) (f0_A_b15_469 q1 p2 p3 p4 p6) w_CS))), .second, .unset, .unset] [])) _
      refine XS.iload X336.here hx rfl (hb hby at_516) rfl ?_
      exact k
    have pre23 : ∀ t, Steps p.tables e below (T336.setTop (mkF m 546 #[.val (.long q1), .second, .val (.int p2), .val (.int p3), .val (.int p4), .val (.int p5), .val (.int p6), .val (.int (f0_v6 p4)), .val (.int (f0_v16 p5)), .val (.int (f0_s0_31 p6)), .val (.int (f0_s0_45 p6)), .val (.int (f0_v54 p6)), .val (.long (f0_s0_78 p5)), .second, .val (.int (p2.toInt8.toInt32)), .val (.int (p2.toUInt32.toUInt16.toUInt32.toInt32)), .val (.int (p3 &&& (65535 : Int32))), .val (.int ((f0_s0_113 p3).toUInt32.toUInt16.toUInt32.toInt32)), .val (.ref b7), .val (.ref b15), .val (.ref b313), .val (.long (f7n (f0_v6 p4) (f0_v16 p5) w_CS (f1_o0 (0 : Int32) (12 : Int32) (f0_A_b15_469 q1 p2 p3 p4 p6) w_CS) (f1_x0n (0 : Int32) (12 : Int32) (f0_A_b15_469 q1 p2 p3 p4 p6) w_CS) (f1_x0c (0 : Int32) (12 : Int32) (f0_A_b15_469 q1 p2 p3 p4 p6) w_CS))), .second, .val (.long (f0_l23_546 q1 p5 p6)), .second] [])) t → Steps p.tables e below (s₁.setTop (entryFrame m #[(.long q1), (.int p2), (.int p3), (.int p4), (.int p5), (.int p6)] maxLocals)) t := by
      intro t k
      by_cases hc518 : (f0_s0_45 p6) = (0 : Int32)
      · have eq24 := (show (f0_l23_546 q1 p5 p6) = ((q1 &&& (9187201950435737471 : Int64)) &&& (f0_s0_78 p5)) from by unfold f0_l23_546; simp only [if_pos hc518])
        try rw [eq24] at k
        refine pre22 t ?_
        show Steps p.tables e below (T336.setTop (mkF m 518 #[.val (.long q1), .second, .val (.int p2), .val (.int p3), .val (.int p4), .val (.int p5), .val (.int p6), .val (.int (f0_v6 p4)), .val (.int (f0_v16 p5)), .val (.int (f0_s0_31 p6)), .val (.int (f0_s0_45 p6)), .val (.int (f0_v54 p6)), .val (.long (f0_s0_78 p5)), .second, .val (.int (p2.toInt8.toInt32)), .val (.int (p2.toUInt32.toUInt16.toUInt32.toInt32)), .val (.int (p3 &&& (65535 : Int32))), .val (.int ((f0_s0_113 p3).toUInt32.toUInt16.toUInt32.toInt32)), .val (.ref b7), .val (.ref b15), .val (.ref b313), .val (.long (f7n (f0_v6 p4) (f0_v16 p5) w_CS (f1_o0 (0 : Int32) (12 : Int32) (f0_A_b15_469 q1 p2 p3 p4 p6) w_CS) (f1_x0n (0 : Int32) (12 : Int32) (f0_A_b15_469 q1 p2 p3 p4 p6) w_CS) (f1_x0c (0 : Int32) (12 : Int32) (f0_A_b15_469 q1 p2 p3 p4 p6) w_CS))), .second, .unset, .unset] [(.int (f0_s0_45 p6))])) _
        refine XS.ifYes X336.here hx rfl (pc0 := 518) (pc' := 536) rfl (hb hby at_518) rfl ((if0 _ _).trans (teq hc518).1) (by decide) (by decide) ?_
        show Steps p.tables e below (T336.setTop (mkF m 536 #[.val (.long q1), .second, .val (.int p2), .val (.int p3), .val (.int p4), .val (.int p5), .val (.int p6), .val (.int (f0_v6 p4)), .val (.int (f0_v16 p5)), .val (.int (f0_s0_31 p6)), .val (.int (f0_s0_45 p6)), .val (.int (f0_v54 p6)), .val (.long (f0_s0_78 p5)), .second, .val (.int (p2.toInt8.toInt32)), .val (.int (p2.toUInt32.toUInt16.toUInt32.toInt32)), .val (.int (p3 &&& (65535 : Int32))), .val (.int ((f0_s0_113 p3).toUInt32.toUInt16.toUInt32.toInt32)), .val (.ref b7), .val (.ref b15), .val (.ref b313), .val (.long (f7n (f0_v6 p4) (f0_v16 p5) w_CS (f1_o0 (0 : Int32) (12 : Int32) (f0_A_b15_469 q1 p2 p3 p4 p6) w_CS) (f1_x0n (0 : Int32) (12 : Int32) (f0_A_b15_469 q1 p2 p3 p4 p6) w_CS) (f1_x0c (0 : Int32) (12 : Int32) (f0_A_b15_469 q1 p2 p3 p4 p6) w_CS))), .second, .unset, .unset] [])) _
        refine XS.lloadN X336.here hx rfl (hb hby at_536) rfl ?_
        show Steps p.tables e below (T336.setTop (mkF m 537 #[.val (.long q1), .second, .val (.int p2), .val (.int p3), .val (.int p4), .val (.int p5), .val (.int p6), .val (.int (f0_v6 p4)), .val (.int (f0_v16 p5)), .val (.int (f0_s0_31 p6)), .val (.int (f0_s0_45 p6)), .val (.int (f0_v54 p6)), .val (.long (f0_s0_78 p5)), .second, .val (.int (p2.toInt8.toInt32)), .val (.int (p2.toUInt32.toUInt16.toUInt32.toInt32)), .val (.int (p3 &&& (65535 : Int32))), .val (.int ((f0_s0_113 p3).toUInt32.toUInt16.toUInt32.toInt32)), .val (.ref b7), .val (.ref b15), .val (.ref b313), .val (.long (f7n (f0_v6 p4) (f0_v16 p5) w_CS (f1_o0 (0 : Int32) (12 : Int32) (f0_A_b15_469 q1 p2 p3 p4 p6) w_CS) (f1_x0n (0 : Int32) (12 : Int32) (f0_A_b15_469 q1 p2 p3 p4 p6) w_CS) (f1_x0c (0 : Int32) (12 : Int32) (f0_A_b15_469 q1 p2 p3 p4 p6) w_CS))), .second, .unset, .unset] [(.long q1)])) _
        refine X336.ldc2Long hx hown (mvT hZ (hw _ (List.mem_of_getElem? (i := 59) rfl))) (g := (mkF m 537 #[.val (.long q1), .second, .val (.int p2), .val (.int p3), .val (.int p4), .val (.int p5), .val (.int p6), .val (.int (f0_v6 p4)), .val (.int (f0_v16 p5)), .val (.int (f0_s0_31 p6)), .val (.int (f0_s0_45 p6)), .val (.int (f0_v54 p6)), .val (.long (f0_s0_78 p5)), .second, .val (.int (p2.toInt8.toInt32)), .val (.int (p2.toUInt32.toUInt16.toUInt32.toInt32)), .val (.int (p3 &&& (65535 : Int32))), .val (.int ((f0_s0_113 p3).toUInt32.toUInt16.toUInt32.toInt32)), .val (.ref b7), .val (.ref b15), .val (.ref b313), .val (.long (f7n (f0_v6 p4) (f0_v16 p5) w_CS (f1_o0 (0 : Int32) (12 : Int32) (f0_A_b15_469 q1 p2 p3 p4 p6) w_CS) (f1_x0n (0 : Int32) (12 : Int32) (f0_A_b15_469 q1 p2 p3 p4 p6) w_CS) (f1_x0c (0 : Int32) (12 : Int32) (f0_A_b15_469 q1 p2 p3 p4 p6) w_CS))), .second, .unset, .unset] [(.long q1)])) rfl (hb hby at_537) _ ?_
        show Steps p.tables e below (T336.setTop (mkF m 540 #[.val (.long q1), .second, .val (.int p2), .val (.int p3), .val (.int p4), .val (.int p5), .val (.int p6), .val (.int (f0_v6 p4)), .val (.int (f0_v16 p5)), .val (.int (f0_s0_31 p6)), .val (.int (f0_s0_45 p6)), .val (.int (f0_v54 p6)), .val (.long (f0_s0_78 p5)), .second, .val (.int (p2.toInt8.toInt32)), .val (.int (p2.toUInt32.toUInt16.toUInt32.toInt32)), .val (.int (p3 &&& (65535 : Int32))), .val (.int ((f0_s0_113 p3).toUInt32.toUInt16.toUInt32.toInt32)), .val (.ref b7), .val (.ref b15), .val (.ref b313), .val (.long (f7n (f0_v6 p4) (f0_v16 p5) w_CS (f1_o0 (0 : Int32) (12 : Int32) (f0_A_b15_469 q1 p2 p3 p4 p6) w_CS) (f1_x0n (0 : Int32) (12 : Int32) (f0_A_b15_469 q1 p2 p3 p4 p6) w_CS) (f1_x0c (0 : Int32) (12 : Int32) (f0_A_b15_469 q1 p2 p3 p4 p6) w_CS))), .second, .unset, .unset] [(.long (9187201950435737471 : Int64)), (.long q1)])) _
        refine XS.land X336.here hx rfl (hb hby at_540) rfl ?_
        show Steps p.tables e below (T336.setTop (mkF m 541 #[.val (.long q1), .second, .val (.int p2), .val (.int p3), .val (.int p4), .val (.int p5), .val (.int p6), .val (.int (f0_v6 p4)), .val (.int (f0_v16 p5)), .val (.int (f0_s0_31 p6)), .val (.int (f0_s0_45 p6)), .val (.int (f0_v54 p6)), .val (.long (f0_s0_78 p5)), .second, .val (.int (p2.toInt8.toInt32)), .val (.int (p2.toUInt32.toUInt16.toUInt32.toInt32)), .val (.int (p3 &&& (65535 : Int32))), .val (.int ((f0_s0_113 p3).toUInt32.toUInt16.toUInt32.toInt32)), .val (.ref b7), .val (.ref b15), .val (.ref b313), .val (.long (f7n (f0_v6 p4) (f0_v16 p5) w_CS (f1_o0 (0 : Int32) (12 : Int32) (f0_A_b15_469 q1 p2 p3 p4 p6) w_CS) (f1_x0n (0 : Int32) (12 : Int32) (f0_A_b15_469 q1 p2 p3 p4 p6) w_CS) (f1_x0c (0 : Int32) (12 : Int32) (f0_A_b15_469 q1 p2 p3 p4 p6) w_CS))), .second, .unset, .unset] [(.long (q1 &&& (9187201950435737471 : Int64)))])) _
        refine XS.lload X336.here hx rfl (hb hby at_541) rfl ?_
        show Steps p.tables e below (T336.setTop (mkF m 543 #[.val (.long q1), .second, .val (.int p2), .val (.int p3), .val (.int p4), .val (.int p5), .val (.int p6), .val (.int (f0_v6 p4)), .val (.int (f0_v16 p5)), .val (.int (f0_s0_31 p6)), .val (.int (f0_s0_45 p6)), .val (.int (f0_v54 p6)), .val (.long (f0_s0_78 p5)), .second, .val (.int (p2.toInt8.toInt32)), .val (.int (p2.toUInt32.toUInt16.toUInt32.toInt32)), .val (.int (p3 &&& (65535 : Int32))), .val (.int ((f0_s0_113 p3).toUInt32.toUInt16.toUInt32.toInt32)), .val (.ref b7), .val (.ref b15), .val (.ref b313), .val (.long (f7n (f0_v6 p4) (f0_v16 p5) w_CS (f1_o0 (0 : Int32) (12 : Int32) (f0_A_b15_469 q1 p2 p3 p4 p6) w_CS) (f1_x0n (0 : Int32) (12 : Int32) (f0_A_b15_469 q1 p2 p3 p4 p6) w_CS) (f1_x0c (0 : Int32) (12 : Int32) (f0_A_b15_469 q1 p2 p3 p4 p6) w_CS))), .second, .unset, .unset] [(.long (f0_s0_78 p5)), (.long (q1 &&& (9187201950435737471 : Int64)))])) _
        refine XS.land X336.here hx rfl (hb hby at_543) rfl ?_
        show Steps p.tables e below (T336.setTop (mkF m 544 #[.val (.long q1), .second, .val (.int p2), .val (.int p3), .val (.int p4), .val (.int p5), .val (.int p6), .val (.int (f0_v6 p4)), .val (.int (f0_v16 p5)), .val (.int (f0_s0_31 p6)), .val (.int (f0_s0_45 p6)), .val (.int (f0_v54 p6)), .val (.long (f0_s0_78 p5)), .second, .val (.int (p2.toInt8.toInt32)), .val (.int (p2.toUInt32.toUInt16.toUInt32.toInt32)), .val (.int (p3 &&& (65535 : Int32))), .val (.int ((f0_s0_113 p3).toUInt32.toUInt16.toUInt32.toInt32)), .val (.ref b7), .val (.ref b15), .val (.ref b313), .val (.long (f7n (f0_v6 p4) (f0_v16 p5) w_CS (f1_o0 (0 : Int32) (12 : Int32) (f0_A_b15_469 q1 p2 p3 p4 p6) w_CS) (f1_x0n (0 : Int32) (12 : Int32) (f0_A_b15_469 q1 p2 p3 p4 p6) w_CS) (f1_x0c (0 : Int32) (12 : Int32) (f0_A_b15_469 q1 p2 p3 p4 p6) w_CS))), .second, .unset, .unset] [(.long ((q1 &&& (9187201950435737471 : Int64)) &&& (f0_s0_78 p5)))])) _
        refine XS.lstore X336.here hx rfl (hb hby at_544) rfl (l' := #[.val (.long q1), .second, .val (.int p2), .val (.int p3), .val (.int p4), .val (.int p5), .val (.int p6), .val (.int (f0_v6 p4)), .val (.int (f0_v16 p5)), .val (.int (f0_s0_31 p6)), .val (.int (f0_s0_45 p6)), .val (.int (f0_v54 p6)), .val (.long (f0_s0_78 p5)), .second, .val (.int (p2.toInt8.toInt32)), .val (.int (p2.toUInt32.toUInt16.toUInt32.toInt32)), .val (.int (p3 &&& (65535 : Int32))), .val (.int ((f0_s0_113 p3).toUInt32.toUInt16.toUInt32.toInt32)), .val (.ref b7), .val (.ref b15), .val (.ref b313), .val (.long (f7n (f0_v6 p4) (f0_v16 p5) w_CS (f1_o0 (0 : Int32) (12 : Int32) (f0_A_b15_469 q1 p2 p3 p4 p6) w_CS) (f1_x0n (0 : Int32) (12 : Int32) (f0_A_b15_469 q1 p2 p3 p4 p6) w_CS) (f1_x0c (0 : Int32) (12 : Int32) (f0_A_b15_469 q1 p2 p3 p4 p6) w_CS))), .second, .val (.long ((q1 &&& (9187201950435737471 : Int64)) &&& (f0_s0_78 p5))), .second]) rfl ?_
        exact k
      · have pre25 : ∀ t, Steps p.tables e below (T336.setTop (mkF m 525 #[.val (.long q1), .second, .val (.int p2), .val (.int p3), .val (.int p4), .val (.int p5), .val (.int p6), .val (.int (f0_v6 p4)), .val (.int (f0_v16 p5)), .val (.int (f0_s0_31 p6)), .val (.int (f0_s0_45 p6)), .val (.int (f0_v54 p6)), .val (.long (f0_s0_78 p5)), .second, .val (.int (p2.toInt8.toInt32)), .val (.int (p2.toUInt32.toUInt16.toUInt32.toInt32)), .val (.int (p3 &&& (65535 : Int32))), .val (.int ((f0_s0_113 p3).toUInt32.toUInt16.toUInt32.toInt32)), .val (.ref b7), .val (.ref b15), .val (.ref b313), .val (.long (f7n (f0_v6 p4) (f0_v16 p5) w_CS (f1_o0 (0 : Int32) (12 : Int32) (f0_A_b15_469 q1 p2 p3 p4 p6) w_CS) (f1_x0n (0 : Int32) (12 : Int32) (f0_A_b15_469 q1 p2 p3 p4 p6) w_CS) (f1_x0c (0 : Int32) (12 : Int32) (f0_A_b15_469 q1 p2 p3 p4 p6) w_CS))), .second, .unset, .unset] [(.int (f0_v16 p5)), (.int (f0_v54 p6))])) t → Steps p.tables e below (s₁.setTop (entryFrame m #[(.long q1), (.int p2), (.int p3), (.int p4), (.int p5), (.int p6)] maxLocals)) t := by
          intro t k
          refine pre22 t ?_
          show Steps p.tables e below (T336.setTop (mkF m 518 #[.val (.long q1), .second, .val (.int p2), .val (.int p3), .val (.int p4), .val (.int p5), .val (.int p6), .val (.int (f0_v6 p4)), .val (.int (f0_v16 p5)), .val (.int (f0_s0_31 p6)), .val (.int (f0_s0_45 p6)), .val (.int (f0_v54 p6)), .val (.long (f0_s0_78 p5)), .second, .val (.int (p2.toInt8.toInt32)), .val (.int (p2.toUInt32.toUInt16.toUInt32.toInt32)), .val (.int (p3 &&& (65535 : Int32))), .val (.int ((f0_s0_113 p3).toUInt32.toUInt16.toUInt32.toInt32)), .val (.ref b7), .val (.ref b15), .val (.ref b313), .val (.long (f7n (f0_v6 p4) (f0_v16 p5) w_CS (f1_o0 (0 : Int32) (12 : Int32) (f0_A_b15_469 q1 p2 p3 p4 p6) w_CS) (f1_x0n (0 : Int32) (12 : Int32) (f0_A_b15_469 q1 p2 p3 p4 p6) w_CS) (f1_x0c (0 : Int32) (12 : Int32) (f0_A_b15_469 q1 p2 p3 p4 p6) w_CS))), .second, .unset, .unset] [(.int (f0_s0_45 p6))])) _
          refine XS.ifNo X336.here hx rfl (hb hby at_518) rfl ((if0 _ _).trans (feq hc518).1) ?_
          show Steps p.tables e below (T336.setTop (mkF m 521 #[.val (.long q1), .second, .val (.int p2), .val (.int p3), .val (.int p4), .val (.int p5), .val (.int p6), .val (.int (f0_v6 p4)), .val (.int (f0_v16 p5)), .val (.int (f0_s0_31 p6)), .val (.int (f0_s0_45 p6)), .val (.int (f0_v54 p6)), .val (.long (f0_s0_78 p5)), .second, .val (.int (p2.toInt8.toInt32)), .val (.int (p2.toUInt32.toUInt16.toUInt32.toInt32)), .val (.int (p3 &&& (65535 : Int32))), .val (.int ((f0_s0_113 p3).toUInt32.toUInt16.toUInt32.toInt32)), .val (.ref b7), .val (.ref b15), .val (.ref b313), .val (.long (f7n (f0_v6 p4) (f0_v16 p5) w_CS (f1_o0 (0 : Int32) (12 : Int32) (f0_A_b15_469 q1 p2 p3 p4 p6) w_CS) (f1_x0n (0 : Int32) (12 : Int32) (f0_A_b15_469 q1 p2 p3 p4 p6) w_CS) (f1_x0c (0 : Int32) (12 : Int32) (f0_A_b15_469 q1 p2 p3 p4 p6) w_CS))), .second, .unset, .unset] [])) _
          refine XS.iload X336.here hx rfl (hb hby at_521) rfl ?_
          show Steps p.tables e below (T336.setTop (mkF m 523 #[.val (.long q1), .second, .val (.int p2), .val (.int p3), .val (.int p4), .val (.int p5), .val (.int p6), .val (.int (f0_v6 p4)), .val (.int (f0_v16 p5)), .val (.int (f0_s0_31 p6)), .val (.int (f0_s0_45 p6)), .val (.int (f0_v54 p6)), .val (.long (f0_s0_78 p5)), .second, .val (.int (p2.toInt8.toInt32)), .val (.int (p2.toUInt32.toUInt16.toUInt32.toInt32)), .val (.int (p3 &&& (65535 : Int32))), .val (.int ((f0_s0_113 p3).toUInt32.toUInt16.toUInt32.toInt32)), .val (.ref b7), .val (.ref b15), .val (.ref b313), .val (.long (f7n (f0_v6 p4) (f0_v16 p5) w_CS (f1_o0 (0 : Int32) (12 : Int32) (f0_A_b15_469 q1 p2 p3 p4 p6) w_CS) (f1_x0n (0 : Int32) (12 : Int32) (f0_A_b15_469 q1 p2 p3 p4 p6) w_CS) (f1_x0c (0 : Int32) (12 : Int32) (f0_A_b15_469 q1 p2 p3 p4 p6) w_CS))), .second, .unset, .unset] [(.int (f0_v54 p6))])) _
          refine XS.iload X336.here hx rfl (hb hby at_523) rfl ?_
          exact k
        by_cases hc525 : (f0_v54 p6) < (f0_v16 p5)
        · have eq26 := (show (f0_l23_546 q1 p5 p6) = (-1 : Int64) from by unfold f0_l23_546; simp only [if_neg hc518, if_pos hc525])
          try rw [eq26] at k
          refine pre25 t ?_
          show Steps p.tables e below (T336.setTop (mkF m 525 #[.val (.long q1), .second, .val (.int p2), .val (.int p3), .val (.int p4), .val (.int p5), .val (.int p6), .val (.int (f0_v6 p4)), .val (.int (f0_v16 p5)), .val (.int (f0_s0_31 p6)), .val (.int (f0_s0_45 p6)), .val (.int (f0_v54 p6)), .val (.long (f0_s0_78 p5)), .second, .val (.int (p2.toInt8.toInt32)), .val (.int (p2.toUInt32.toUInt16.toUInt32.toInt32)), .val (.int (p3 &&& (65535 : Int32))), .val (.int ((f0_s0_113 p3).toUInt32.toUInt16.toUInt32.toInt32)), .val (.ref b7), .val (.ref b15), .val (.ref b313), .val (.long (f7n (f0_v6 p4) (f0_v16 p5) w_CS (f1_o0 (0 : Int32) (12 : Int32) (f0_A_b15_469 q1 p2 p3 p4 p6) w_CS) (f1_x0n (0 : Int32) (12 : Int32) (f0_A_b15_469 q1 p2 p3 p4 p6) w_CS) (f1_x0c (0 : Int32) (12 : Int32) (f0_A_b15_469 q1 p2 p3 p4 p6) w_CS))), .second, .unset, .unset] [(.int (f0_v16 p5)), (.int (f0_v54 p6))])) _
          refine XS.icmpNo X336.here hx rfl (hb hby at_525) rfl (tlt hc525).2.1 ?_
          show Steps p.tables e below (T336.setTop (mkF m 528 #[.val (.long q1), .second, .val (.int p2), .val (.int p3), .val (.int p4), .val (.int p5), .val (.int p6), .val (.int (f0_v6 p4)), .val (.int (f0_v16 p5)), .val (.int (f0_s0_31 p6)), .val (.int (f0_s0_45 p6)), .val (.int (f0_v54 p6)), .val (.long (f0_s0_78 p5)), .second, .val (.int (p2.toInt8.toInt32)), .val (.int (p2.toUInt32.toUInt16.toUInt32.toInt32)), .val (.int (p3 &&& (65535 : Int32))), .val (.int ((f0_s0_113 p3).toUInt32.toUInt16.toUInt32.toInt32)), .val (.ref b7), .val (.ref b15), .val (.ref b313), .val (.long (f7n (f0_v6 p4) (f0_v16 p5) w_CS (f1_o0 (0 : Int32) (12 : Int32) (f0_A_b15_469 q1 p2 p3 p4 p6) w_CS) (f1_x0n (0 : Int32) (12 : Int32) (f0_A_b15_469 q1 p2 p3 p4 p6) w_CS) (f1_x0c (0 : Int32) (12 : Int32) (f0_A_b15_469 q1 p2 p3 p4 p6) w_CS))), .second, .unset, .unset] [])) _
          refine X336.ldc2Long hx hown (mvT hZ (hw _ (List.mem_of_getElem? (i := 61) rfl))) (g := (mkF m 528 #[.val (.long q1), .second, .val (.int p2), .val (.int p3), .val (.int p4), .val (.int p5), .val (.int p6), .val (.int (f0_v6 p4)), .val (.int (f0_v16 p5)), .val (.int (f0_s0_31 p6)), .val (.int (f0_s0_45 p6)), .val (.int (f0_v54 p6)), .val (.long (f0_s0_78 p5)), .second, .val (.int (p2.toInt8.toInt32)), .val (.int (p2.toUInt32.toUInt16.toUInt32.toInt32)), .val (.int (p3 &&& (65535 : Int32))), .val (.int ((f0_s0_113 p3).toUInt32.toUInt16.toUInt32.toInt32)), .val (.ref b7), .val (.ref b15), .val (.ref b313), .val (.long (f7n (f0_v6 p4) (f0_v16 p5) w_CS (f1_o0 (0 : Int32) (12 : Int32) (f0_A_b15_469 q1 p2 p3 p4 p6) w_CS) (f1_x0n (0 : Int32) (12 : Int32) (f0_A_b15_469 q1 p2 p3 p4 p6) w_CS) (f1_x0c (0 : Int32) (12 : Int32) (f0_A_b15_469 q1 p2 p3 p4 p6) w_CS))), .second, .unset, .unset] [])) rfl (hb hby at_528) _ ?_
          show Steps p.tables e below (T336.setTop (mkF m 531 #[.val (.long q1), .second, .val (.int p2), .val (.int p3), .val (.int p4), .val (.int p5), .val (.int p6), .val (.int (f0_v6 p4)), .val (.int (f0_v16 p5)), .val (.int (f0_s0_31 p6)), .val (.int (f0_s0_45 p6)), .val (.int (f0_v54 p6)), .val (.long (f0_s0_78 p5)), .second, .val (.int (p2.toInt8.toInt32)), .val (.int (p2.toUInt32.toUInt16.toUInt32.toInt32)), .val (.int (p3 &&& (65535 : Int32))), .val (.int ((f0_s0_113 p3).toUInt32.toUInt16.toUInt32.toInt32)), .val (.ref b7), .val (.ref b15), .val (.ref b313), .val (.long (f7n (f0_v6 p4) (f0_v16 p5) w_CS (f1_o0 (0 : Int32) (12 : Int32) (f0_A_b15_469 q1 p2 p3 p4 p6) w_CS) (f1_x0n (0 : Int32) (12 : Int32) (f0_A_b15_469 q1 p2 p3 p4 p6) w_CS) (f1_x0c (0 : Int32) (12 : Int32) (f0_A_b15_469 q1 p2 p3 p4 p6) w_CS))), .second, .unset, .unset] [(.long (-1 : Int64))])) _
          refine XS.lstore X336.here hx rfl (hb hby at_531) rfl (l' := #[.val (.long q1), .second, .val (.int p2), .val (.int p3), .val (.int p4), .val (.int p5), .val (.int p6), .val (.int (f0_v6 p4)), .val (.int (f0_v16 p5)), .val (.int (f0_s0_31 p6)), .val (.int (f0_s0_45 p6)), .val (.int (f0_v54 p6)), .val (.long (f0_s0_78 p5)), .second, .val (.int (p2.toInt8.toInt32)), .val (.int (p2.toUInt32.toUInt16.toUInt32.toInt32)), .val (.int (p3 &&& (65535 : Int32))), .val (.int ((f0_s0_113 p3).toUInt32.toUInt16.toUInt32.toInt32)), .val (.ref b7), .val (.ref b15), .val (.ref b313), .val (.long (f7n (f0_v6 p4) (f0_v16 p5) w_CS (f1_o0 (0 : Int32) (12 : Int32) (f0_A_b15_469 q1 p2 p3 p4 p6) w_CS) (f1_x0n (0 : Int32) (12 : Int32) (f0_A_b15_469 q1 p2 p3 p4 p6) w_CS) (f1_x0c (0 : Int32) (12 : Int32) (f0_A_b15_469 q1 p2 p3 p4 p6) w_CS))), .second, .val (.long (-1 : Int64)), .second]) rfl ?_
          show Steps p.tables e below (T336.setTop (mkF m 533 #[.val (.long q1), .second, .val (.int p2), .val (.int p3), .val (.int p4), .val (.int p5), .val (.int p6), .val (.int (f0_v6 p4)), .val (.int (f0_v16 p5)), .val (.int (f0_s0_31 p6)), .val (.int (f0_s0_45 p6)), .val (.int (f0_v54 p6)), .val (.long (f0_s0_78 p5)), .second, .val (.int (p2.toInt8.toInt32)), .val (.int (p2.toUInt32.toUInt16.toUInt32.toInt32)), .val (.int (p3 &&& (65535 : Int32))), .val (.int ((f0_s0_113 p3).toUInt32.toUInt16.toUInt32.toInt32)), .val (.ref b7), .val (.ref b15), .val (.ref b313), .val (.long (f7n (f0_v6 p4) (f0_v16 p5) w_CS (f1_o0 (0 : Int32) (12 : Int32) (f0_A_b15_469 q1 p2 p3 p4 p6) w_CS) (f1_x0n (0 : Int32) (12 : Int32) (f0_A_b15_469 q1 p2 p3 p4 p6) w_CS) (f1_x0c (0 : Int32) (12 : Int32) (f0_A_b15_469 q1 p2 p3 p4 p6) w_CS))), .second, .val (.long (-1 : Int64)), .second] [])) _
          refine XS.goto X336.here hx rfl (pc0 := 533) (pc' := 546) rfl (hb hby at_533) (by decide) (by decide) ?_
          exact k
        · have eq27 := (show (f0_l23_546 q1 p5 p6) = ((q1 &&& (9187201950435737471 : Int64)) &&& (f0_s0_78 p5)) from by unfold f0_l23_546; simp only [if_neg hc518, if_neg hc525])
          try rw [eq27] at k
          refine pre25 t ?_
          show Steps p.tables e below (T336.setTop (mkF m 525 #[.val (.long q1), .second, .val (.int p2), .val (.int p3), .val (.int p4), .val (.int p5), .val (.int p6), .val (.int (f0_v6 p4)), .val (.int (f0_v16 p5)), .val (.int (f0_s0_31 p6)), .val (.int (f0_s0_45 p6)), .val (.int (f0_v54 p6)), .val (.long (f0_s0_78 p5)), .second, .val (.int (p2.toInt8.toInt32)), .val (.int (p2.toUInt32.toUInt16.toUInt32.toInt32)), .val (.int (p3 &&& (65535 : Int32))), .val (.int ((f0_s0_113 p3).toUInt32.toUInt16.toUInt32.toInt32)), .val (.ref b7), .val (.ref b15), .val (.ref b313), .val (.long (f7n (f0_v6 p4) (f0_v16 p5) w_CS (f1_o0 (0 : Int32) (12 : Int32) (f0_A_b15_469 q1 p2 p3 p4 p6) w_CS) (f1_x0n (0 : Int32) (12 : Int32) (f0_A_b15_469 q1 p2 p3 p4 p6) w_CS) (f1_x0c (0 : Int32) (12 : Int32) (f0_A_b15_469 q1 p2 p3 p4 p6) w_CS))), .second, .unset, .unset] [(.int (f0_v16 p5)), (.int (f0_v54 p6))])) _
          refine XS.icmpYes X336.here hx rfl (pc0 := 525) (pc' := 536) rfl (hb hby at_525) rfl (flt hc525).2.1 (by decide) (by decide) ?_
          show Steps p.tables e below (T336.setTop (mkF m 536 #[.val (.long q1), .second, .val (.int p2), .val (.int p3), .val (.int p4), .val (.int p5), .val (.int p6), .val (.int (f0_v6 p4)), .val (.int (f0_v16 p5)), .val (.int (f0_s0_31 p6)), .val (.int (f0_s0_45 p6)), .val (.int (f0_v54 p6)), .val (.long (f0_s0_78 p5)), .second, .val (.int (p2.toInt8.toInt32)), .val (.int (p2.toUInt32.toUInt16.toUInt32.toInt32)), .val (.int (p3 &&& (65535 : Int32))), .val (.int ((f0_s0_113 p3).toUInt32.toUInt16.toUInt32.toInt32)), .val (.ref b7), .val (.ref b15), .val (.ref b313), .val (.long (f7n (f0_v6 p4) (f0_v16 p5) w_CS (f1_o0 (0 : Int32) (12 : Int32) (f0_A_b15_469 q1 p2 p3 p4 p6) w_CS) (f1_x0n (0 : Int32) (12 : Int32) (f0_A_b15_469 q1 p2 p3 p4 p6) w_CS) (f1_x0c (0 : Int32) (12 : Int32) (f0_A_b15_469 q1 p2 p3 p4 p6) w_CS))), .second, .unset, .unset] [])) _
          refine XS.lloadN X336.here hx rfl (hb hby at_536) rfl ?_
          show Steps p.tables e below (T336.setTop (mkF m 537 #[.val (.long q1), .second, .val (.int p2), .val (.int p3), .val (.int p4), .val (.int p5), .val (.int p6), .val (.int (f0_v6 p4)), .val (.int (f0_v16 p5)), .val (.int (f0_s0_31 p6)), .val (.int (f0_s0_45 p6)), .val (.int (f0_v54 p6)), .val (.long (f0_s0_78 p5)), .second, .val (.int (p2.toInt8.toInt32)), .val (.int (p2.toUInt32.toUInt16.toUInt32.toInt32)), .val (.int (p3 &&& (65535 : Int32))), .val (.int ((f0_s0_113 p3).toUInt32.toUInt16.toUInt32.toInt32)), .val (.ref b7), .val (.ref b15), .val (.ref b313), .val (.long (f7n (f0_v6 p4) (f0_v16 p5) w_CS (f1_o0 (0 : Int32) (12 : Int32) (f0_A_b15_469 q1 p2 p3 p4 p6) w_CS) (f1_x0n (0 : Int32) (12 : Int32) (f0_A_b15_469 q1 p2 p3 p4 p6) w_CS) (f1_x0c (0 : Int32) (12 : Int32) (f0_A_b15_469 q1 p2 p3 p4 p6) w_CS))), .second, .unset, .unset] [(.long q1)])) _
          refine X336.ldc2Long hx hown (mvT hZ (hw _ (List.mem_of_getElem? (i := 59) rfl))) (g := (mkF m 537 #[.val (.long q1), .second, .val (.int p2), .val (.int p3), .val (.int p4), .val (.int p5), .val (.int p6), .val (.int (f0_v6 p4)), .val (.int (f0_v16 p5)), .val (.int (f0_s0_31 p6)), .val (.int (f0_s0_45 p6)), .val (.int (f0_v54 p6)), .val (.long (f0_s0_78 p5)), .second, .val (.int (p2.toInt8.toInt32)), .val (.int (p2.toUInt32.toUInt16.toUInt32.toInt32)), .val (.int (p3 &&& (65535 : Int32))), .val (.int ((f0_s0_113 p3).toUInt32.toUInt16.toUInt32.toInt32)), .val (.ref b7), .val (.ref b15), .val (.ref b313), .val (.long (f7n (f0_v6 p4) (f0_v16 p5) w_CS (f1_o0 (0 : Int32) (12 : Int32) (f0_A_b15_469 q1 p2 p3 p4 p6) w_CS) (f1_x0n (0 : Int32) (12 : Int32) (f0_A_b15_469 q1 p2 p3 p4 p6) w_CS) (f1_x0c (0 : Int32) (12 : Int32) (f0_A_b15_469 q1 p2 p3 p4 p6) w_CS))), .second, .unset, .unset] [(.long q1)])) rfl (hb hby at_537) _ ?_
          show Steps p.tables e below (T336.setTop (mkF m 540 #[.val (.long q1), .second, .val (.int p2), .val (.int p3), .val (.int p4), .val (.int p5), .val (.int p6), .val (.int (f0_v6 p4)), .val (.int (f0_v16 p5)), .val (.int (f0_s0_31 p6)), .val (.int (f0_s0_45 p6)), .val (.int (f0_v54 p6)), .val (.long (f0_s0_78 p5)), .second, .val (.int (p2.toInt8.toInt32)), .val (.int (p2.toUInt32.toUInt16.toUInt32.toInt32)), .val (.int (p3 &&& (65535 : Int32))), .val (.int ((f0_s0_113 p3).toUInt32.toUInt16.toUInt32.toInt32)), .val (.ref b7), .val (.ref b15), .val (.ref b313), .val (.long (f7n (f0_v6 p4) (f0_v16 p5) w_CS (f1_o0 (0 : Int32) (12 : Int32) (f0_A_b15_469 q1 p2 p3 p4 p6) w_CS) (f1_x0n (0 : Int32) (12 : Int32) (f0_A_b15_469 q1 p2 p3 p4 p6) w_CS) (f1_x0c (0 : Int32) (12 : Int32) (f0_A_b15_469 q1 p2 p3 p4 p6) w_CS))), .second, .unset, .unset] [(.long (9187201950435737471 : Int64)), (.long q1)])) _
          refine XS.land X336.here hx rfl (hb hby at_540) rfl ?_
          show Steps p.tables e below (T336.setTop (mkF m 541 #[.val (.long q1), .second, .val (.int p2), .val (.int p3), .val (.int p4), .val (.int p5), .val (.int p6), .val (.int (f0_v6 p4)), .val (.int (f0_v16 p5)), .val (.int (f0_s0_31 p6)), .val (.int (f0_s0_45 p6)), .val (.int (f0_v54 p6)), .val (.long (f0_s0_78 p5)), .second, .val (.int (p2.toInt8.toInt32)), .val (.int (p2.toUInt32.toUInt16.toUInt32.toInt32)), .val (.int (p3 &&& (65535 : Int32))), .val (.int ((f0_s0_113 p3).toUInt32.toUInt16.toUInt32.toInt32)), .val (.ref b7), .val (.ref b15), .val (.ref b313), .val (.long (f7n (f0_v6 p4) (f0_v16 p5) w_CS (f1_o0 (0 : Int32) (12 : Int32) (f0_A_b15_469 q1 p2 p3 p4 p6) w_CS) (f1_x0n (0 : Int32) (12 : Int32) (f0_A_b15_469 q1 p2 p3 p4 p6) w_CS) (f1_x0c (0 : Int32) (12 : Int32) (f0_A_b15_469 q1 p2 p3 p4 p6) w_CS))), .second, .unset, .unset] [(.long (q1 &&& (9187201950435737471 : Int64)))])) _
          refine XS.lload X336.here hx rfl (hb hby at_541) rfl ?_
          show Steps p.tables e below (T336.setTop (mkF m 543 #[.val (.long q1), .second, .val (.int p2), .val (.int p3), .val (.int p4), .val (.int p5), .val (.int p6), .val (.int (f0_v6 p4)), .val (.int (f0_v16 p5)), .val (.int (f0_s0_31 p6)), .val (.int (f0_s0_45 p6)), .val (.int (f0_v54 p6)), .val (.long (f0_s0_78 p5)), .second, .val (.int (p2.toInt8.toInt32)), .val (.int (p2.toUInt32.toUInt16.toUInt32.toInt32)), .val (.int (p3 &&& (65535 : Int32))), .val (.int ((f0_s0_113 p3).toUInt32.toUInt16.toUInt32.toInt32)), .val (.ref b7), .val (.ref b15), .val (.ref b313), .val (.long (f7n (f0_v6 p4) (f0_v16 p5) w_CS (f1_o0 (0 : Int32) (12 : Int32) (f0_A_b15_469 q1 p2 p3 p4 p6) w_CS) (f1_x0n (0 : Int32) (12 : Int32) (f0_A_b15_469 q1 p2 p3 p4 p6) w_CS) (f1_x0c (0 : Int32) (12 : Int32) (f0_A_b15_469 q1 p2 p3 p4 p6) w_CS))), .second, .unset, .unset] [(.long (f0_s0_78 p5)), (.long (q1 &&& (9187201950435737471 : Int64)))])) _
          refine XS.land X336.here hx rfl (hb hby at_543) rfl ?_
          show Steps p.tables e below (T336.setTop (mkF m 544 #[.val (.long q1), .second, .val (.int p2), .val (.int p3), .val (.int p4), .val (.int p5), .val (.int p6), .val (.int (f0_v6 p4)), .val (.int (f0_v16 p5)), .val (.int (f0_s0_31 p6)), .val (.int (f0_s0_45 p6)), .val (.int (f0_v54 p6)), .val (.long (f0_s0_78 p5)), .second, .val (.int (p2.toInt8.toInt32)), .val (.int (p2.toUInt32.toUInt16.toUInt32.toInt32)), .val (.int (p3 &&& (65535 : Int32))), .val (.int ((f0_s0_113 p3).toUInt32.toUInt16.toUInt32.toInt32)), .val (.ref b7), .val (.ref b15), .val (.ref b313), .val (.long (f7n (f0_v6 p4) (f0_v16 p5) w_CS (f1_o0 (0 : Int32) (12 : Int32) (f0_A_b15_469 q1 p2 p3 p4 p6) w_CS) (f1_x0n (0 : Int32) (12 : Int32) (f0_A_b15_469 q1 p2 p3 p4 p6) w_CS) (f1_x0c (0 : Int32) (12 : Int32) (f0_A_b15_469 q1 p2 p3 p4 p6) w_CS))), .second, .unset, .unset] [(.long ((q1 &&& (9187201950435737471 : Int64)) &&& (f0_s0_78 p5)))])) _
          refine XS.lstore X336.here hx rfl (hb hby at_544) rfl (l' := #[.val (.long q1), .second, .val (.int p2), .val (.int p3), .val (.int p4), .val (.int p5), .val (.int p6), .val (.int (f0_v6 p4)), .val (.int (f0_v16 p5)), .val (.int (f0_s0_31 p6)), .val (.int (f0_s0_45 p6)), .val (.int (f0_v54 p6)), .val (.long (f0_s0_78 p5)), .second, .val (.int (p2.toInt8.toInt32)), .val (.int (p2.toUInt32.toUInt16.toUInt32.toInt32)), .val (.int (p3 &&& (65535 : Int32))), .val (.int ((f0_s0_113 p3).toUInt32.toUInt16.toUInt32.toInt32)), .val (.ref b7), .val (.ref b15), .val (.ref b313), .val (.long (f7n (f0_v6 p4) (f0_v16 p5) w_CS (f1_o0 (0 : Int32) (12 : Int32) (f0_A_b15_469 q1 p2 p3 p4 p6) w_CS) (f1_x0n (0 : Int32) (12 : Int32) (f0_A_b15_469 q1 p2 p3 p4 p6) w_CS) (f1_x0c (0 : Int32) (12 : Int32) (f0_A_b15_469 q1 p2 p3 p4 p6) w_CS))), .second, .val (.long ((q1 &&& (9187201950435737471 : Int64)) &&& (f0_s0_78 p5))), .second]) rfl ?_
          exact k
    have pre28 : ∀ t, Steps p.tables e below (T336.setTop (mkF m 551 #[.val (.long q1), .second, .val (.int p2), .val (.int p3), .val (.int p4), .val (.int p5), .val (.int p6), .val (.int (f0_v6 p4)), .val (.int (f0_v16 p5)), .val (.int (f0_s0_31 p6)), .val (.int (f0_s0_45 p6)), .val (.int (f0_v54 p6)), .val (.long (f0_s0_78 p5)), .second, .val (.int (p2.toInt8.toInt32)), .val (.int (p2.toUInt32.toUInt16.toUInt32.toInt32)), .val (.int (p3 &&& (65535 : Int32))), .val (.int ((f0_s0_113 p3).toUInt32.toUInt16.toUInt32.toInt32)), .val (.ref b7), .val (.ref b15), .val (.ref b313), .val (.long (f7n (f0_v6 p4) (f0_v16 p5) w_CS (f1_o0 (0 : Int32) (12 : Int32) (f0_A_b15_469 q1 p2 p3 p4 p6) w_CS) (f1_x0n (0 : Int32) (12 : Int32) (f0_A_b15_469 q1 p2 p3 p4 p6) w_CS) (f1_x0c (0 : Int32) (12 : Int32) (f0_A_b15_469 q1 p2 p3 p4 p6) w_CS))), .second, .val (.long (f0_l23_546 q1 p5 p6)), .second] [(.int (lcmpW (f7n (f0_v6 p4) (f0_v16 p5) w_CS (f1_o0 (0 : Int32) (12 : Int32) (f0_A_b15_469 q1 p2 p3 p4 p6) w_CS) (f1_x0n (0 : Int32) (12 : Int32) (f0_A_b15_469 q1 p2 p3 p4 p6) w_CS) (f1_x0c (0 : Int32) (12 : Int32) (f0_A_b15_469 q1 p2 p3 p4 p6) w_CS)) (f0_l23_546 q1 p5 p6)))])) t → Steps p.tables e below (s₁.setTop (entryFrame m #[(.long q1), (.int p2), (.int p3), (.int p4), (.int p5), (.int p6)] maxLocals)) t := by
      intro t k
      refine pre23 t ?_
      show Steps p.tables e below (T336.setTop (mkF m 546 #[.val (.long q1), .second, .val (.int p2), .val (.int p3), .val (.int p4), .val (.int p5), .val (.int p6), .val (.int (f0_v6 p4)), .val (.int (f0_v16 p5)), .val (.int (f0_s0_31 p6)), .val (.int (f0_s0_45 p6)), .val (.int (f0_v54 p6)), .val (.long (f0_s0_78 p5)), .second, .val (.int (p2.toInt8.toInt32)), .val (.int (p2.toUInt32.toUInt16.toUInt32.toInt32)), .val (.int (p3 &&& (65535 : Int32))), .val (.int ((f0_s0_113 p3).toUInt32.toUInt16.toUInt32.toInt32)), .val (.ref b7), .val (.ref b15), .val (.ref b313), .val (.long (f7n (f0_v6 p4) (f0_v16 p5) w_CS (f1_o0 (0 : Int32) (12 : Int32) (f0_A_b15_469 q1 p2 p3 p4 p6) w_CS) (f1_x0n (0 : Int32) (12 : Int32) (f0_A_b15_469 q1 p2 p3 p4 p6) w_CS) (f1_x0c (0 : Int32) (12 : Int32) (f0_A_b15_469 q1 p2 p3 p4 p6) w_CS))), .second, .val (.long (f0_l23_546 q1 p5 p6)), .second] [])) _
      refine XS.lload X336.here hx rfl (hb hby at_546) rfl ?_
      show Steps p.tables e below (T336.setTop (mkF m 548 #[.val (.long q1), .second, .val (.int p2), .val (.int p3), .val (.int p4), .val (.int p5), .val (.int p6), .val (.int (f0_v6 p4)), .val (.int (f0_v16 p5)), .val (.int (f0_s0_31 p6)), .val (.int (f0_s0_45 p6)), .val (.int (f0_v54 p6)), .val (.long (f0_s0_78 p5)), .second, .val (.int (p2.toInt8.toInt32)), .val (.int (p2.toUInt32.toUInt16.toUInt32.toInt32)), .val (.int (p3 &&& (65535 : Int32))), .val (.int ((f0_s0_113 p3).toUInt32.toUInt16.toUInt32.toInt32)), .val (.ref b7), .val (.ref b15), .val (.ref b313), .val (.long (f7n (f0_v6 p4) (f0_v16 p5) w_CS (f1_o0 (0 : Int32) (12 : Int32) (f0_A_b15_469 q1 p2 p3 p4 p6) w_CS) (f1_x0n (0 : Int32) (12 : Int32) (f0_A_b15_469 q1 p2 p3 p4 p6) w_CS) (f1_x0c (0 : Int32) (12 : Int32) (f0_A_b15_469 q1 p2 p3 p4 p6) w_CS))), .second, .val (.long (f0_l23_546 q1 p5 p6)), .second] [(.long (f7n (f0_v6 p4) (f0_v16 p5) w_CS (f1_o0 (0 : Int32) (12 : Int32) (f0_A_b15_469 q1 p2 p3 p4 p6) w_CS) (f1_x0n (0 : Int32) (12 : Int32) (f0_A_b15_469 q1 p2 p3 p4 p6) w_CS) (f1_x0c (0 : Int32) (12 : Int32) (f0_A_b15_469 q1 p2 p3 p4 p6) w_CS)))])) _
      refine XS.lload X336.here hx rfl (hb hby at_548) rfl ?_
      show Steps p.tables e below (T336.setTop (mkF m 550 #[.val (.long q1), .second, .val (.int p2), .val (.int p3), .val (.int p4), .val (.int p5), .val (.int p6), .val (.int (f0_v6 p4)), .val (.int (f0_v16 p5)), .val (.int (f0_s0_31 p6)), .val (.int (f0_s0_45 p6)), .val (.int (f0_v54 p6)), .val (.long (f0_s0_78 p5)), .second, .val (.int (p2.toInt8.toInt32)), .val (.int (p2.toUInt32.toUInt16.toUInt32.toInt32)), .val (.int (p3 &&& (65535 : Int32))), .val (.int ((f0_s0_113 p3).toUInt32.toUInt16.toUInt32.toInt32)), .val (.ref b7), .val (.ref b15), .val (.ref b313), .val (.long (f7n (f0_v6 p4) (f0_v16 p5) w_CS (f1_o0 (0 : Int32) (12 : Int32) (f0_A_b15_469 q1 p2 p3 p4 p6) w_CS) (f1_x0n (0 : Int32) (12 : Int32) (f0_A_b15_469 q1 p2 p3 p4 p6) w_CS) (f1_x0c (0 : Int32) (12 : Int32) (f0_A_b15_469 q1 p2 p3 p4 p6) w_CS))), .second, .val (.long (f0_l23_546 q1 p5 p6)), .second] [(.long (f0_l23_546 q1 p5 p6)), (.long (f7n (f0_v6 p4) (f0_v16 p5) w_CS (f1_o0 (0 : Int32) (12 : Int32) (f0_A_b15_469 q1 p2 p3 p4 p6) w_CS) (f1_x0n (0 : Int32) (12 : Int32) (f0_A_b15_469 q1 p2 p3 p4 p6) w_CS) (f1_x0c (0 : Int32) (12 : Int32) (f0_A_b15_469 q1 p2 p3 p4 p6) w_CS)))])) _
      refine XS.lcmp X336.here hx rfl (hb hby at_550) rfl ?_
      exact k
    by_cases hc551 : (f7n (f0_v6 p4) (f0_v16 p5) w_CS (f1_o0 (0 : Int32) (12 : Int32) (f0_A_b15_469 q1 p2 p3 p4 p6) w_CS) (f1_x0n (0 : Int32) (12 : Int32) (f0_A_b15_469 q1 p2 p3 p4 p6) w_CS) (f1_x0c (0 : Int32) (12 : Int32) (f0_A_b15_469 q1 p2 p3 p4 p6) w_CS)) = (f0_l23_546 q1 p5 p6)
    · have eq29 : (f0 q1 p2 p3 p4 p5 p6 w_CS) = (1 : Int32) := by unfold f0; simp only [if_pos hc484, if_pos hc551]
      obtain ⟨fs, hr, hrun, hended, hW, hsame⟩ := X336.leave (v := some (.int (1 : Int32))) (fun h => by rw [Bd.returns] at h; cases h)
      refine ⟨_, _, pre28 _ ?_, hrun, hended, _, _, rfl, ?_, ⟨_, rfl⟩, hW, hsame.mono (by decide) (by decide)⟩
      · show Steps p.tables e below (T336.setTop (mkF m 551 #[.val (.long q1), .second, .val (.int p2), .val (.int p3), .val (.int p4), .val (.int p5), .val (.int p6), .val (.int (f0_v6 p4)), .val (.int (f0_v16 p5)), .val (.int (f0_s0_31 p6)), .val (.int (f0_s0_45 p6)), .val (.int (f0_v54 p6)), .val (.long (f0_s0_78 p5)), .second, .val (.int (p2.toInt8.toInt32)), .val (.int (p2.toUInt32.toUInt16.toUInt32.toInt32)), .val (.int (p3 &&& (65535 : Int32))), .val (.int ((f0_s0_113 p3).toUInt32.toUInt16.toUInt32.toInt32)), .val (.ref b7), .val (.ref b15), .val (.ref b313), .val (.long (f7n (f0_v6 p4) (f0_v16 p5) w_CS (f1_o0 (0 : Int32) (12 : Int32) (f0_A_b15_469 q1 p2 p3 p4 p6) w_CS) (f1_x0n (0 : Int32) (12 : Int32) (f0_A_b15_469 q1 p2 p3 p4 p6) w_CS) (f1_x0c (0 : Int32) (12 : Int32) (f0_A_b15_469 q1 p2 p3 p4 p6) w_CS))), .second, .val (.long (f0_l23_546 q1 p5 p6)), .second] [(.int (lcmpW (f7n (f0_v6 p4) (f0_v16 p5) w_CS (f1_o0 (0 : Int32) (12 : Int32) (f0_A_b15_469 q1 p2 p3 p4 p6) w_CS) (f1_x0n (0 : Int32) (12 : Int32) (f0_A_b15_469 q1 p2 p3 p4 p6) w_CS) (f1_x0c (0 : Int32) (12 : Int32) (f0_A_b15_469 q1 p2 p3 p4 p6) w_CS)) (f0_l23_546 q1 p5 p6)))])) _
        refine XS.ifNo X336.here hx rfl (hb hby at_551) rfl ((if0 _ _).trans (teq ((lw_eq _ _).mpr hc551)).2) ?_
        show Steps p.tables e below (T336.setTop (mkF m 554 #[.val (.long q1), .second, .val (.int p2), .val (.int p3), .val (.int p4), .val (.int p5), .val (.int p6), .val (.int (f0_v6 p4)), .val (.int (f0_v16 p5)), .val (.int (f0_s0_31 p6)), .val (.int (f0_s0_45 p6)), .val (.int (f0_v54 p6)), .val (.long (f0_s0_78 p5)), .second, .val (.int (p2.toInt8.toInt32)), .val (.int (p2.toUInt32.toUInt16.toUInt32.toInt32)), .val (.int (p3 &&& (65535 : Int32))), .val (.int ((f0_s0_113 p3).toUInt32.toUInt16.toUInt32.toInt32)), .val (.ref b7), .val (.ref b15), .val (.ref b313), .val (.long (f7n (f0_v6 p4) (f0_v16 p5) w_CS (f1_o0 (0 : Int32) (12 : Int32) (f0_A_b15_469 q1 p2 p3 p4 p6) w_CS) (f1_x0n (0 : Int32) (12 : Int32) (f0_A_b15_469 q1 p2 p3 p4 p6) w_CS) (f1_x0c (0 : Int32) (12 : Int32) (f0_A_b15_469 q1 p2 p3 p4 p6) w_CS))), .second, .val (.long (f0_l23_546 q1 p5 p6)), .second] [])) _
        refine XS.iconst X336.here hx rfl (hb hby at_554) ?_
        show Steps p.tables e below (T336.setTop (mkF m 555 #[.val (.long q1), .second, .val (.int p2), .val (.int p3), .val (.int p4), .val (.int p5), .val (.int p6), .val (.int (f0_v6 p4)), .val (.int (f0_v16 p5)), .val (.int (f0_s0_31 p6)), .val (.int (f0_s0_45 p6)), .val (.int (f0_v54 p6)), .val (.long (f0_s0_78 p5)), .second, .val (.int (p2.toInt8.toInt32)), .val (.int (p2.toUInt32.toUInt16.toUInt32.toInt32)), .val (.int (p3 &&& (65535 : Int32))), .val (.int ((f0_s0_113 p3).toUInt32.toUInt16.toUInt32.toInt32)), .val (.ref b7), .val (.ref b15), .val (.ref b313), .val (.long (f7n (f0_v6 p4) (f0_v16 p5) w_CS (f1_o0 (0 : Int32) (12 : Int32) (f0_A_b15_469 q1 p2 p3 p4 p6) w_CS) (f1_x0n (0 : Int32) (12 : Int32) (f0_A_b15_469 q1 p2 p3 p4 p6) w_CS) (f1_x0c (0 : Int32) (12 : Int32) (f0_A_b15_469 q1 p2 p3 p4 p6) w_CS))), .second, .val (.long (f0_l23_546 q1 p5 p6)), .second] [(.int (1 : Int32))])) _
        refine XS.goto X336.here hx rfl (pc0 := 555) (pc' := 559) rfl (hb hby at_555) (by decide) (by decide) ?_
        show Steps p.tables e below (T336.setTop (mkF m 559 #[.val (.long q1), .second, .val (.int p2), .val (.int p3), .val (.int p4), .val (.int p5), .val (.int p6), .val (.int (f0_v6 p4)), .val (.int (f0_v16 p5)), .val (.int (f0_s0_31 p6)), .val (.int (f0_s0_45 p6)), .val (.int (f0_v54 p6)), .val (.long (f0_s0_78 p5)), .second, .val (.int (p2.toInt8.toInt32)), .val (.int (p2.toUInt32.toUInt16.toUInt32.toInt32)), .val (.int (p3 &&& (65535 : Int32))), .val (.int ((f0_s0_113 p3).toUInt32.toUInt16.toUInt32.toInt32)), .val (.ref b7), .val (.ref b15), .val (.ref b313), .val (.long (f7n (f0_v6 p4) (f0_v16 p5) w_CS (f1_o0 (0 : Int32) (12 : Int32) (f0_A_b15_469 q1 p2 p3 p4 p6) w_CS) (f1_x0n (0 : Int32) (12 : Int32) (f0_A_b15_469 q1 p2 p3 p4 p6) w_CS) (f1_x0c (0 : Int32) (12 : Int32) (f0_A_b15_469 q1 p2 p3 p4 p6) w_CS))), .second, .val (.long (f0_l23_546 q1 p5 p6)), .second] [(.int (1 : Int32))])) _
        exact retN X336 hx (t := .boolean) Bd.returns (by simp) (hb hby at_559) hr
      · show Q0 Z q1 p2 p3 p4 p5 p6 w_CS w_SIO h0 n0 _ T336.heap _
        rw [e336]
        exact ⟨by rw [eq29], N336, trivial⟩
    · have eq30 : (f0 q1 p2 p3 p4 p5 p6 w_CS) = (0 : Int32) := by unfold f0; simp only [if_pos hc484, if_neg hc551]
      obtain ⟨fs, hr, hrun, hended, hW, hsame⟩ := X336.leave (v := some (.int (0 : Int32))) (fun h => by rw [Bd.returns] at h; cases h)
      refine ⟨_, _, pre28 _ ?_, hrun, hended, _, _, rfl, ?_, ⟨_, rfl⟩, hW, hsame.mono (by decide) (by decide)⟩
      · show Steps p.tables e below (T336.setTop (mkF m 551 #[.val (.long q1), .second, .val (.int p2), .val (.int p3), .val (.int p4), .val (.int p5), .val (.int p6), .val (.int (f0_v6 p4)), .val (.int (f0_v16 p5)), .val (.int (f0_s0_31 p6)), .val (.int (f0_s0_45 p6)), .val (.int (f0_v54 p6)), .val (.long (f0_s0_78 p5)), .second, .val (.int (p2.toInt8.toInt32)), .val (.int (p2.toUInt32.toUInt16.toUInt32.toInt32)), .val (.int (p3 &&& (65535 : Int32))), .val (.int ((f0_s0_113 p3).toUInt32.toUInt16.toUInt32.toInt32)), .val (.ref b7), .val (.ref b15), .val (.ref b313), .val (.long (f7n (f0_v6 p4) (f0_v16 p5) w_CS (f1_o0 (0 : Int32) (12 : Int32) (f0_A_b15_469 q1 p2 p3 p4 p6) w_CS) (f1_x0n (0 : Int32) (12 : Int32) (f0_A_b15_469 q1 p2 p3 p4 p6) w_CS) (f1_x0c (0 : Int32) (12 : Int32) (f0_A_b15_469 q1 p2 p3 p4 p6) w_CS))), .second, .val (.long (f0_l23_546 q1 p5 p6)), .second] [(.int (lcmpW (f7n (f0_v6 p4) (f0_v16 p5) w_CS (f1_o0 (0 : Int32) (12 : Int32) (f0_A_b15_469 q1 p2 p3 p4 p6) w_CS) (f1_x0n (0 : Int32) (12 : Int32) (f0_A_b15_469 q1 p2 p3 p4 p6) w_CS) (f1_x0c (0 : Int32) (12 : Int32) (f0_A_b15_469 q1 p2 p3 p4 p6) w_CS)) (f0_l23_546 q1 p5 p6)))])) _
        refine XS.ifYes X336.here hx rfl (pc0 := 551) (pc' := 558) rfl (hb hby at_551) rfl ((if0 _ _).trans (feq (fun q => hc551 ((lw_eq _ _).mp q))).2) (by decide) (by decide) ?_
        show Steps p.tables e below (T336.setTop (mkF m 558 #[.val (.long q1), .second, .val (.int p2), .val (.int p3), .val (.int p4), .val (.int p5), .val (.int p6), .val (.int (f0_v6 p4)), .val (.int (f0_v16 p5)), .val (.int (f0_s0_31 p6)), .val (.int (f0_s0_45 p6)), .val (.int (f0_v54 p6)), .val (.long (f0_s0_78 p5)), .second, .val (.int (p2.toInt8.toInt32)), .val (.int (p2.toUInt32.toUInt16.toUInt32.toInt32)), .val (.int (p3 &&& (65535 : Int32))), .val (.int ((f0_s0_113 p3).toUInt32.toUInt16.toUInt32.toInt32)), .val (.ref b7), .val (.ref b15), .val (.ref b313), .val (.long (f7n (f0_v6 p4) (f0_v16 p5) w_CS (f1_o0 (0 : Int32) (12 : Int32) (f0_A_b15_469 q1 p2 p3 p4 p6) w_CS) (f1_x0n (0 : Int32) (12 : Int32) (f0_A_b15_469 q1 p2 p3 p4 p6) w_CS) (f1_x0c (0 : Int32) (12 : Int32) (f0_A_b15_469 q1 p2 p3 p4 p6) w_CS))), .second, .val (.long (f0_l23_546 q1 p5 p6)), .second] [])) _
        refine XS.iconst X336.here hx rfl (hb hby at_558) ?_
        show Steps p.tables e below (T336.setTop (mkF m 559 #[.val (.long q1), .second, .val (.int p2), .val (.int p3), .val (.int p4), .val (.int p5), .val (.int p6), .val (.int (f0_v6 p4)), .val (.int (f0_v16 p5)), .val (.int (f0_s0_31 p6)), .val (.int (f0_s0_45 p6)), .val (.int (f0_v54 p6)), .val (.long (f0_s0_78 p5)), .second, .val (.int (p2.toInt8.toInt32)), .val (.int (p2.toUInt32.toUInt16.toUInt32.toInt32)), .val (.int (p3 &&& (65535 : Int32))), .val (.int ((f0_s0_113 p3).toUInt32.toUInt16.toUInt32.toInt32)), .val (.ref b7), .val (.ref b15), .val (.ref b313), .val (.long (f7n (f0_v6 p4) (f0_v16 p5) w_CS (f1_o0 (0 : Int32) (12 : Int32) (f0_A_b15_469 q1 p2 p3 p4 p6) w_CS) (f1_x0n (0 : Int32) (12 : Int32) (f0_A_b15_469 q1 p2 p3 p4 p6) w_CS) (f1_x0c (0 : Int32) (12 : Int32) (f0_A_b15_469 q1 p2 p3 p4 p6) w_CS))), .second, .val (.long (f0_l23_546 q1 p5 p6)), .second] [(.int (0 : Int32))])) _
        exact retN X336 hx (t := .boolean) Bd.returns (by simp) (hb hby at_559) hr
      · show Q0 Z q1 p2 p3 p4 p5 p6 w_CS w_SIO h0 n0 _ T336.heap _
        rw [e336]
        exact ⟨by rw [eq30], N336, trivial⟩
  · obtain ⟨_, _, ⟨T337, L337, k337, n337⟩, -, X337, ⟨Lc337, hQ337, l337, y337, z337⟩, st337⟩ := Jvm.LawKit.callS X324 hx (y := (⟨"com/example/ringward/ringward/Utf8", "littleEndian", "(Ljava/lang/String;[BII)J"⟩ : MethodName)) hown (mvT hZ (hw _ (List.mem_of_getElem? (i := 33) rfl))) (mvT hZ (hw _ (List.mem_of_getElem? (i := 34) rfl))) (mvT hZ (hw _ (List.mem_of_getElem? (i := 35) rfl))) (mvT hZ (hw _ (List.mem_of_getElem? (i := 36) rfl))) (by decide) (backOf (W := 0) (rm7b l Z a0 hw [] b313 b7 (f0_v6 p4) (f0_v16 p5) (12 : Int32) (f0_v320 q1 p2 p4) T324.heap n0 c325 c331 (own_sc p4 p5 rfl)) hZ (hw _ (List.mem_of_getElem? (i := 36) rfl)) (hw _ (List.mem_of_getElem? (i := 35) rfl)) (by decide) (by decide)) (g := (mkF m 497 #[.val (.long q1), .second, .val (.int p2), .val (.int p3), .val (.int p4), .val (.int p5), .val (.int p6), .val (.int (f0_v6 p4)), .val (.int (f0_v16 p5)), .val (.int (f0_s0_31 p6)), .val (.int (f0_s0_45 p6)), .val (.int (f0_v54 p6)), .val (.long (f0_s0_78 p5)), .second, .val (.int (p2.toInt8.toInt32)), .val (.int (p2.toUInt32.toUInt16.toUInt32.toInt32)), .val (.int (p3 &&& (65535 : Int32))), .val (.int ((f0_s0_113 p3).toUInt32.toUInt16.toUInt32.toInt32)), .val (.ref b7), .val (.ref b15), .val (.ref b313), .unset, .unset, .unset, .unset] [(.int (f0_v16 p5)), (.int (f0_v6 p4)), (.ref b7), (.ref b313)])) rfl (by rw [hml]; rfl) (argsL := [(.ref b313), (.ref b7), (.int (f0_v6 p4)), (.int (f0_v16 p5))]) (rest := []) (lenOf pd_15 rfl) rfl (by show 2 * 0 + _ ≤ _; exact Nat.le_of_eq rfl) (hb hby at_497) (fun _ _ => ⟨rfl, rfl, (by decide : 5 + 0 ≤ _), (by decide : 64 + 0 ≤ _)⟩)
    dsimp only [Pt.U, Pt.locs, Pt.cells, Pt.slots] at X337 l337 y337 z337 st337 hQ337
    subst l337 y337 z337
    obtain ⟨rfl, N337q, e337⟩ := hQ337
    have N337 := Fr.app N324 N337q
    have pre31 : ∀ t, Steps p.tables e below (T337.setTop (mkF m 551 #[.val (.long q1), .second, .val (.int p2), .val (.int p3), .val (.int p4), .val (.int p5), .val (.int p6), .val (.int (f0_v6 p4)), .val (.int (f0_v16 p5)), .val (.int (f0_s0_31 p6)), .val (.int (f0_s0_45 p6)), .val (.int (f0_v54 p6)), .val (.long (f0_s0_78 p5)), .second, .val (.int (p2.toInt8.toInt32)), .val (.int (p2.toUInt32.toUInt16.toUInt32.toInt32)), .val (.int (p3 &&& (65535 : Int32))), .val (.int ((f0_s0_113 p3).toUInt32.toUInt16.toUInt32.toInt32)), .val (.ref b7), .val (.ref b15), .val (.ref b313), .val (.long (f7b (f0_v6 p4) (f0_v16 p5) (12 : Int32) (f0_v320 q1 p2 p4))), .second, .val (.long (q1 &&& (f0_s0_78 p5))), .second] [(.int (lcmpW (f7b (f0_v6 p4) (f0_v16 p5) (12 : Int32) (f0_v320 q1 p2 p4)) (q1 &&& (f0_s0_78 p5))))])) t → Steps p.tables e below (s₁.setTop (entryFrame m #[(.long q1), (.int p2), (.int p3), (.int p4), (.int p5), (.int p6)] maxLocals)) t := by
      intro t k
      refine pre21 t ?_
      show Steps p.tables e below (T324.setTop (mkF m 484 #[.val (.long q1), .second, .val (.int p2), .val (.int p3), .val (.int p4), .val (.int p5), .val (.int p6), .val (.int (f0_v6 p4)), .val (.int (f0_v16 p5)), .val (.int (f0_s0_31 p6)), .val (.int (f0_s0_45 p6)), .val (.int (f0_v54 p6)), .val (.long (f0_s0_78 p5)), .second, .val (.int (p2.toInt8.toInt32)), .val (.int (p2.toUInt32.toUInt16.toUInt32.toInt32)), .val (.int (p3 &&& (65535 : Int32))), .val (.int ((f0_s0_113 p3).toUInt32.toUInt16.toUInt32.toInt32)), .val (.ref b7), .val (.ref b15), .val (.ref b313), .unset, .unset, .unset, .unset] [(.int (f0_s0_31 p6)), (.ref b313)])) _
      refine XS.ifNo X324.here hx rfl (hb hby at_484) rfl ((if0 _ _).trans (feq hc484).1) ?_
      show Steps p.tables e below (T324.setTop (mkF m 487 #[.val (.long q1), .second, .val (.int p2), .val (.int p3), .val (.int p4), .val (.int p5), .val (.int p6), .val (.int (f0_v6 p4)), .val (.int (f0_v16 p5)), .val (.int (f0_s0_31 p6)), .val (.int (f0_s0_45 p6)), .val (.int (f0_v54 p6)), .val (.long (f0_s0_78 p5)), .second, .val (.int (p2.toInt8.toInt32)), .val (.int (p2.toUInt32.toUInt16.toUInt32.toInt32)), .val (.int (p3 &&& (65535 : Int32))), .val (.int ((f0_s0_113 p3).toUInt32.toUInt16.toUInt32.toInt32)), .val (.ref b7), .val (.ref b15), .val (.ref b313), .unset, .unset, .unset, .unset] [(.ref b313)])) _
      refine XS.aload X324.here hx rfl (hb hby at_487) rfl rfl ?_
      show Steps p.tables e below (T324.setTop (mkF m 489 #[.val (.long q1), .second, .val (.int p2), .val (.int p3), .val (.int p4), .val (.int p5), .val (.int p6), .val (.int (f0_v6 p4)), .val (.int (f0_v16 p5)), .val (.int (f0_s0_31 p6)), .val (.int (f0_s0_45 p6)), .val (.int (f0_v54 p6)), .val (.long (f0_s0_78 p5)), .second, .val (.int (p2.toInt8.toInt32)), .val (.int (p2.toUInt32.toUInt16.toUInt32.toInt32)), .val (.int (p3 &&& (65535 : Int32))), .val (.int ((f0_s0_113 p3).toUInt32.toUInt16.toUInt32.toInt32)), .val (.ref b7), .val (.ref b15), .val (.ref b313), .unset, .unset, .unset, .unset] [(.ref b7), (.ref b313)])) _
      refine XS.goto X324.here hx rfl (pc0 := 489) (pc' := 493) rfl (hb hby at_489) (by decide) (by decide) ?_
      show Steps p.tables e below (T324.setTop (mkF m 493 #[.val (.long q1), .second, .val (.int p2), .val (.int p3), .val (.int p4), .val (.int p5), .val (.int p6), .val (.int (f0_v6 p4)), .val (.int (f0_v16 p5)), .val (.int (f0_s0_31 p6)), .val (.int (f0_s0_45 p6)), .val (.int (f0_v54 p6)), .val (.long (f0_s0_78 p5)), .second, .val (.int (p2.toInt8.toInt32)), .val (.int (p2.toUInt32.toUInt16.toUInt32.toInt32)), .val (.int (p3 &&& (65535 : Int32))), .val (.int ((f0_s0_113 p3).toUInt32.toUInt16.toUInt32.toInt32)), .val (.ref b7), .val (.ref b15), .val (.ref b313), .unset, .unset, .unset, .unset] [(.ref b7), (.ref b313)])) _
      refine XS.iload X324.here hx rfl (hb hby at_493) rfl ?_
      show Steps p.tables e below (T324.setTop (mkF m 495 #[.val (.long q1), .second, .val (.int p2), .val (.int p3), .val (.int p4), .val (.int p5), .val (.int p6), .val (.int (f0_v6 p4)), .val (.int (f0_v16 p5)), .val (.int (f0_s0_31 p6)), .val (.int (f0_s0_45 p6)), .val (.int (f0_v54 p6)), .val (.long (f0_s0_78 p5)), .second, .val (.int (p2.toInt8.toInt32)), .val (.int (p2.toUInt32.toUInt16.toUInt32.toInt32)), .val (.int (p3 &&& (65535 : Int32))), .val (.int ((f0_s0_113 p3).toUInt32.toUInt16.toUInt32.toInt32)), .val (.ref b7), .val (.ref b15), .val (.ref b313), .unset, .unset, .unset, .unset] [(.int (f0_v6 p4)), (.ref b7), (.ref b313)])) _
      refine XS.iload X324.here hx rfl (hb hby at_495) rfl ?_
      show Steps p.tables e below (T324.setTop (mkF m 497 #[.val (.long q1), .second, .val (.int p2), .val (.int p3), .val (.int p4), .val (.int p5), .val (.int p6), .val (.int (f0_v6 p4)), .val (.int (f0_v16 p5)), .val (.int (f0_s0_31 p6)), .val (.int (f0_s0_45 p6)), .val (.int (f0_v54 p6)), .val (.long (f0_s0_78 p5)), .second, .val (.int (p2.toInt8.toInt32)), .val (.int (p2.toUInt32.toUInt16.toUInt32.toInt32)), .val (.int (p3 &&& (65535 : Int32))), .val (.int ((f0_s0_113 p3).toUInt32.toUInt16.toUInt32.toInt32)), .val (.ref b7), .val (.ref b15), .val (.ref b313), .unset, .unset, .unset, .unset] [(.int (f0_v16 p5)), (.int (f0_v6 p4)), (.ref b7), (.ref b313)])) _
      refine st337 _ ?_
      show Steps p.tables e below (T337.setTop (mkF m 500 #[.val (.long q1), .second, .val (.int p2), .val (.int p3), .val (.int p4), .val (.int p5), .val (.int p6), .val (.int (f0_v6 p4)), .val (.int (f0_v16 p5)), .val (.int (f0_s0_31 p6)), .val (.int (f0_s0_45 p6)), .val (.int (f0_v54 p6)), .val (.long (f0_s0_78 p5)), .second, .val (.int (p2.toInt8.toInt32)), .val (.int (p2.toUInt32.toUInt16.toUInt32.toInt32)), .val (.int (p3 &&& (65535 : Int32))), .val (.int ((f0_s0_113 p3).toUInt32.toUInt16.toUInt32.toInt32)), .val (.ref b7), .val (.ref b15), .val (.ref b313), .unset, .unset, .unset, .unset] [(.long (f7b (f0_v6 p4) (f0_v16 p5) (12 : Int32) (f0_v320 q1 p2 p4)))])) _
      refine XS.lstore X337.here hx rfl (hb hby at_500) rfl (l' := #[.val (.long q1), .second, .val (.int p2), .val (.int p3), .val (.int p4), .val (.int p5), .val (.int p6), .val (.int (f0_v6 p4)), .val (.int (f0_v16 p5)), .val (.int (f0_s0_31 p6)), .val (.int (f0_s0_45 p6)), .val (.int (f0_v54 p6)), .val (.long (f0_s0_78 p5)), .second, .val (.int (p2.toInt8.toInt32)), .val (.int (p2.toUInt32.toUInt16.toUInt32.toInt32)), .val (.int (p3 &&& (65535 : Int32))), .val (.int ((f0_s0_113 p3).toUInt32.toUInt16.toUInt32.toInt32)), .val (.ref b7), .val (.ref b15), .val (.ref b313), .val (.long (f7b (f0_v6 p4) (f0_v16 p5) (12 : Int32) (f0_v320 q1 p2 p4))), .second, .unset, .unset]) rfl ?_
      show Steps p.tables e below (T337.setTop (mkF m 502 #[.val (.long q1), .second, .val (.int p2), .val (.int p3), .val (.int p4), .val (.int p5), .val (.int p6), .val (.int (f0_v6 p4)), .val (.int (f0_v16 p5)), .val (.int (f0_s0_31 p6)), .val (.int (f0_s0_45 p6)), .val (.int (f0_v54 p6)), .val (.long (f0_s0_78 p5)), .second, .val (.int (p2.toInt8.toInt32)), .val (.int (p2.toUInt32.toUInt16.toUInt32.toInt32)), .val (.int (p3 &&& (65535 : Int32))), .val (.int ((f0_s0_113 p3).toUInt32.toUInt16.toUInt32.toInt32)), .val (.ref b7), .val (.ref b15), .val (.ref b313), .val (.long (f7b (f0_v6 p4) (f0_v16 p5) (12 : Int32) (f0_v320 q1 p2 p4))), .second, .unset, .unset] [])) _
      refine XS.iload X337.here hx rfl (hb hby at_502) rfl ?_
      show Steps p.tables e below (T337.setTop (mkF m 504 #[.val (.long q1), .second, .val (.int p2), .val (.int p3), .val (.int p4), .val (.int p5), .val (.int p6), .val (.int (f0_v6 p4)), .val (.int (f0_v16 p5)), .val (.int (f0_s0_31 p6)), .val (.int (f0_s0_45 p6)), .val (.int (f0_v54 p6)), .val (.long (f0_s0_78 p5)), .second, .val (.int (p2.toInt8.toInt32)), .val (.int (p2.toUInt32.toUInt16.toUInt32.toInt32)), .val (.int (p3 &&& (65535 : Int32))), .val (.int ((f0_s0_113 p3).toUInt32.toUInt16.toUInt32.toInt32)), .val (.ref b7), .val (.ref b15), .val (.ref b313), .val (.long (f7b (f0_v6 p4) (f0_v16 p5) (12 : Int32) (f0_v320 q1 p2 p4))), .second, .unset, .unset] [(.int (f0_s0_31 p6))])) _
      refine XS.ifNo X337.here hx rfl (hb hby at_504) rfl ((if0 _ _).trans (feq hc484).1) ?_
      show Steps p.tables e below (T337.setTop (mkF m 507 #[.val (.long q1), .second, .val (.int p2), .val (.int p3), .val (.int p4), .val (.int p5), .val (.int p6), .val (.int (f0_v6 p4)), .val (.int (f0_v16 p5)), .val (.int (f0_s0_31 p6)), .val (.int (f0_s0_45 p6)), .val (.int (f0_v54 p6)), .val (.long (f0_s0_78 p5)), .second, .val (.int (p2.toInt8.toInt32)), .val (.int (p2.toUInt32.toUInt16.toUInt32.toInt32)), .val (.int (p3 &&& (65535 : Int32))), .val (.int ((f0_s0_113 p3).toUInt32.toUInt16.toUInt32.toInt32)), .val (.ref b7), .val (.ref b15), .val (.ref b313), .val (.long (f7b (f0_v6 p4) (f0_v16 p5) (12 : Int32) (f0_v320 q1 p2 p4))), .second, .unset, .unset] [])) _
      refine XS.lloadN X337.here hx rfl (hb hby at_507) rfl ?_
      show Steps p.tables e below (T337.setTop (mkF m 508 #[.val (.long q1), .second, .val (.int p2), .val (.int p3), .val (.int p4), .val (.int p5), .val (.int p6), .val (.int (f0_v6 p4)), .val (.int (f0_v16 p5)), .val (.int (f0_s0_31 p6)), .val (.int (f0_s0_45 p6)), .val (.int (f0_v54 p6)), .val (.long (f0_s0_78 p5)), .second, .val (.int (p2.toInt8.toInt32)), .val (.int (p2.toUInt32.toUInt16.toUInt32.toInt32)), .val (.int (p3 &&& (65535 : Int32))), .val (.int ((f0_s0_113 p3).toUInt32.toUInt16.toUInt32.toInt32)), .val (.ref b7), .val (.ref b15), .val (.ref b313), .val (.long (f7b (f0_v6 p4) (f0_v16 p5) (12 : Int32) (f0_v320 q1 p2 p4))), .second, .unset, .unset] [(.long q1)])) _
      refine XS.lload X337.here hx rfl (hb hby at_508) rfl ?_
      show Steps p.tables e below (T337.setTop (mkF m 510 #[.val (.long q1), .second, .val (.int p2), .val (.int p3), .val (.int p4), .val (.int p5), .val (.int p6), .val (.int (f0_v6 p4)), .val (.int (f0_v16 p5)), .val (.int (f0_s0_31 p6)), .val (.int (f0_s0_45 p6)), .val (.int (f0_v54 p6)), .val (.long (f0_s0_78 p5)), .second, .val (.int (p2.toInt8.toInt32)), .val (.int (p2.toUInt32.toUInt16.toUInt32.toInt32)), .val (.int (p3 &&& (65535 : Int32))), .val (.int ((f0_s0_113 p3).toUInt32.toUInt16.toUInt32.toInt32)), .val (.ref b7), .val (.ref b15), .val (.ref b313), .val (.long (f7b (f0_v6 p4) (f0_v16 p5) (12 : Int32) (f0_v320 q1 p2 p4))), .second, .unset, .unset] [(.long (f0_s0_78 p5)), (.long q1)])) _
      refine XS.land X337.here hx rfl (hb hby at_510) rfl ?_
      show Steps p.tables e below (T337.setTop (mkF m 511 #[.val (.long q1), .second, .val (.int p2), .val (.int p3), .val (.int p4), .val (.int p5), .val (.int p6), .val (.int (f0_v6 p4)), .val (.int (f0_v16 p5)), .val (.int (f0_s0_31 p6)), .val (.int (f0_s0_45 p6)), .val (.int (f0_v54 p6)), .val (.long (f0_s0_78 p5)), .second, .val (.int (p2.toInt8.toInt32)), .val (.int (p2.toUInt32.toUInt16.toUInt32.toInt32)), .val (.int (p3 &&& (65535 : Int32))), .val (.int ((f0_s0_113 p3).toUInt32.toUInt16.toUInt32.toInt32)), .val (.ref b7), .val (.ref b15), .val (.ref b313), .val (.long (f7b (f0_v6 p4) (f0_v16 p5) (12 : Int32) (f0_v320 q1 p2 p4))), .second, .unset, .unset] [(.long (q1 &&& (f0_s0_78 p5)))])) _
      refine XS.lstore X337.here hx rfl (hb hby at_511) rfl (l' := #[.val (.long q1), .second, .val (.int p2), .val (.int p3), .val (.int p4), .val (.int p5), .val (.int p6), .val (.int (f0_v6 p4)), .val (.int (f0_v16 p5)), .val (.int (f0_s0_31 p6)), .val (.int (f0_s0_45 p6)), .val (.int (f0_v54 p6)), .val (.long (f0_s0_78 p5)), .second, .val (.int (p2.toInt8.toInt32)), .val (.int (p2.toUInt32.toUInt16.toUInt32.toInt32)), .val (.int (p3 &&& (65535 : Int32))), .val (.int ((f0_s0_113 p3).toUInt32.toUInt16.toUInt32.toInt32)), .val (.ref b7), .val (.ref b15), .val (.ref b313), .val (.long (f7b (f0_v6 p4) (f0_v16 p5) (12 : Int32) (f0_v320 q1 p2 p4))), .second, .val (.long (q1 &&& (f0_s0_78 p5))), .second]) rfl ?_
      show Steps p.tables e below (T337.setTop (mkF m 513 #[.val (.long q1), .second, .val (.int p2), .val (.int p3), .val (.int p4), .val (.int p5), .val (.int p6), .val (.int (f0_v6 p4)), .val (.int (f0_v16 p5)), .val (.int (f0_s0_31 p6)), .val (.int (f0_s0_45 p6)), .val (.int (f0_v54 p6)), .val (.long (f0_s0_78 p5)), .second, .val (.int (p2.toInt8.toInt32)), .val (.int (p2.toUInt32.toUInt16.toUInt32.toInt32)), .val (.int (p3 &&& (65535 : Int32))), .val (.int ((f0_s0_113 p3).toUInt32.toUInt16.toUInt32.toInt32)), .val (.ref b7), .val (.ref b15), .val (.ref b313), .val (.long (f7b (f0_v6 p4) (f0_v16 p5) (12 : Int32) (f0_v320 q1 p2 p4))), .second, .val (.long (q1 &&& (f0_s0_78 p5))), .second] [])) _
      refine XS.goto X337.here hx rfl (pc0 := 513) (pc' := 546) rfl (hb hby at_513) (by decide) (by decide) ?_
      show Steps p.tables e below (T337.setTop (mkF m 546 #[.val (.long q1), .second, .val (.int p2), .val (.int p3), .val (.int p4), .val (.int p5), .val (.int p6), .val (.int (f0_v6 p4)), .val (.int (f0_v16 p5)), .val (.int (f0_s0_31 p6)), .val (.int (f0_s0_45 p6)), .val (.int (f0_v54 p6)), .val (.long (f0_s0_78 p5)), .second, .val (.int (p2.toInt8.toInt32)), .val (.int (p2.toUInt32.toUInt16.toUInt32.toInt32)), .val (.int (p3 &&& (65535 : Int32))), .val (.int ((f0_s0_113 p3).toUInt32.toUInt16.toUInt32.toInt32)), .val (.ref b7), .val (.ref b15), .val (.ref b313), .val (.long (f7b (f0_v6 p4) (f0_v16 p5) (12 : Int32) (f0_v320 q1 p2 p4))), .second, .val (.long (q1 &&& (f0_s0_78 p5))), .second] [])) _
      refine XS.lload X337.here hx rfl (hb hby at_546) rfl ?_
      show Steps p.tables e below (T337.setTop (mkF m 548 #[.val (.long q1), .second, .val (.int p2), .val (.int p3), .val (.int p4), .val (.int p5), .val (.int p6), .val (.int (f0_v6 p4)), .val (.int (f0_v16 p5)), .val (.int (f0_s0_31 p6)), .val (.int (f0_s0_45 p6)), .val (.int (f0_v54 p6)), .val (.long (f0_s0_78 p5)), .second, .val (.int (p2.toInt8.toInt32)), .val (.int (p2.toUInt32.toUInt16.toUInt32.toInt32)), .val (.int (p3 &&& (65535 : Int32))), .val (.int ((f0_s0_113 p3).toUInt32.toUInt16.toUInt32.toInt32)), .val (.ref b7), .val (.ref b15), .val (.ref b313), .val (.long (f7b (f0_v6 p4) (f0_v16 p5) (12 : Int32) (f0_v320 q1 p2 p4))), .second, .val (.long (q1 &&& (f0_s0_78 p5))), .second] [(.long (f7b (f0_v6 p4) (f0_v16 p5) (12 : Int32) (f0_v320 q1 p2 p4)))])) _
      refine XS.lload X337.here hx rfl (hb hby at_548) rfl ?_
      show Steps p.tables e below (T337.setTop (mkF m 550 #[.val (.long q1), .second, .val (.int p2), .val (.int p3), .val (.int p4), .val (.int p5), .val (.int p6), .val (.int (f0_v6 p4)), .val (.int (f0_v16 p5)), .val (.int (f0_s0_31 p6)), .val (.int (f0_s0_45 p6)), .val (.int (f0_v54 p6)), .val (.long (f0_s0_78 p5)), .second, .val (.int (p2.toInt8.toInt32)), .val (.int (p2.toUInt32.toUInt16.toUInt32.toInt32)), .val (.int (p3 &&& (65535 : Int32))), .val (.int ((f0_s0_113 p3).toUInt32.toUInt16.toUInt32.toInt32)), .val (.ref b7), .val (.ref b15), .val (.ref b313), .val (.long (f7b (f0_v6 p4) (f0_v16 p5) (12 : Int32) (f0_v320 q1 p2 p4))), .second, .val (.long (q1 &&& (f0_s0_78 p5))), .second] [(.long (q1 &&& (f0_s0_78 p5))), (.long (f7b (f0_v6 p4) (f0_v16 p5) (12 : Int32) (f0_v320 q1 p2 p4)))])) _
      refine XS.lcmp X337.here hx rfl (hb hby at_550) rfl ?_
      exact k
    by_cases hc551 : (f7b (f0_v6 p4) (f0_v16 p5) (12 : Int32) (f0_v320 q1 p2 p4)) = (q1 &&& (f0_s0_78 p5))
    · have eq32 : (f0 q1 p2 p3 p4 p5 p6 w_CS) = (1 : Int32) := by unfold f0; simp only [if_neg hc484, if_pos hc551]
      obtain ⟨fs, hr, hrun, hended, hW, hsame⟩ := X337.leave (v := some (.int (1 : Int32))) (fun h => by rw [Bd.returns] at h; cases h)
      refine ⟨_, _, pre31 _ ?_, hrun, hended, _, _, rfl, ?_, ⟨_, rfl⟩, hW, hsame.mono (by decide) (by decide)⟩
      · show Steps p.tables e below (T337.setTop (mkF m 551 #[.val (.long q1), .second, .val (.int p2), .val (.int p3), .val (.int p4), .val (.int p5), .val (.int p6), .val (.int (f0_v6 p4)), .val (.int (f0_v16 p5)), .val (.int (f0_s0_31 p6)), .val (.int (f0_s0_45 p6)), .val (.int (f0_v54 p6)), .val (.long (f0_s0_78 p5)), .second, .val (.int (p2.toInt8.toInt32)), .val (.int (p2.toUInt32.toUInt16.toUInt32.toInt32)), .val (.int (p3 &&& (65535 : Int32))), .val (.int ((f0_s0_113 p3).toUInt32.toUInt16.toUInt32.toInt32)), .val (.ref b7), .val (.ref b15), .val (.ref b313), .val (.long (f7b (f0_v6 p4) (f0_v16 p5) (12 : Int32) (f0_v320 q1 p2 p4))), .second, .val (.long (q1 &&& (f0_s0_78 p5))), .second] [(.int (lcmpW (f7b (f0_v6 p4) (f0_v16 p5) (12 : Int32) (f0_v320 q1 p2 p4)) (q1 &&& (f0_s0_78 p5))))])) _
        refine XS.ifNo X337.here hx rfl (hb hby at_551) rfl ((if0 _ _).trans (teq ((lw_eq _ _).mpr hc551)).2) ?_
        show Steps p.tables e below (T337.setTop (mkF m 554 #[.val (.long q1), .second, .val (.int p2), .val (.int p3), .val (.int p4), .val (.int p5), .val (.int p6), .val (.int (f0_v6 p4)), .val (.int (f0_v16 p5)), .val (.int (f0_s0_31 p6)), .val (.int (f0_s0_45 p6)), .val (.int (f0_v54 p6)), .val (.long (f0_s0_78 p5)), .second, .val (.int (p2.toInt8.toInt32)), .val (.int (p2.toUInt32.toUInt16.toUInt32.toInt32)), .val (.int (p3 &&& (65535 : Int32))), .val (.int ((f0_s0_113 p3).toUInt32.toUInt16.toUInt32.toInt32)), .val (.ref b7), .val (.ref b15), .val (.ref b313), .val (.long (f7b (f0_v6 p4) (f0_v16 p5) (12 : Int32) (f0_v320 q1 p2 p4))), .second, .val (.long (q1 &&& (f0_s0_78 p5))), .second] [])) _
        refine XS.iconst X337.here hx rfl (hb hby at_554) ?_
        show Steps p.tables e below (T337.setTop (mkF m 555 #[.val (.long q1), .second, .val (.int p2), .val (.int p3), .val (.int p4), .val (.int p5), .val (.int p6), .val (.int (f0_v6 p4)), .val (.int (f0_v16 p5)), .val (.int (f0_s0_31 p6)), .val (.int (f0_s0_45 p6)), .val (.int (f0_v54 p6)), .val (.long (f0_s0_78 p5)), .second, .val (.int (p2.toInt8.toInt32)), .val (.int (p2.toUInt32.toUInt16.toUInt32.toInt32)), .val (.int (p3 &&& (65535 : Int32))), .val (.int ((f0_s0_113 p3).toUInt32.toUInt16.toUInt32.toInt32)), .val (.ref b7), .val (.ref b15), .val (.ref b313), .val (.long (f7b (f0_v6 p4) (f0_v16 p5) (12 : Int32) (f0_v320 q1 p2 p4))), .second, .val (.long (q1 &&& (f0_s0_78 p5))), .second] [(.int (1 : Int32))])) _
        refine XS.goto X337.here hx rfl (pc0 := 555) (pc' := 559) rfl (hb hby at_555) (by decide) (by decide) ?_
        show Steps p.tables e below (T337.setTop (mkF m 559 #[.val (.long q1), .second, .val (.int p2), .val (.int p3), .val (.int p4), .val (.int p5), .val (.int p6), .val (.int (f0_v6 p4)), .val (.int (f0_v16 p5)), .val (.int (f0_s0_31 p6)), .val (.int (f0_s0_45 p6)), .val (.int (f0_v54 p6)), .val (.long (f0_s0_78 p5)), .second, .val (.int (p2.toInt8.toInt32)), .val (.int (p2.toUInt32.toUInt16.toUInt32.toInt32)), .val (.int (p3 &&& (65535 : Int32))), .val (.int ((f0_s0_113 p3).toUInt32.toUInt16.toUInt32.toInt32)), .val (.ref b7), .val (.ref b15), .val (.ref b313), .val (.long (f7b (f0_v6 p4) (f0_v16 p5) (12 : Int32) (f0_v320 q1 p2 p4))), .second, .val (.long (q1 &&& (f0_s0_78 p5))), .second] [(.int (1 : Int32))])) _
        exact retN X337 hx (t := .boolean) Bd.returns (by simp) (hb hby at_559) hr
      · show Q0 Z q1 p2 p3 p4 p5 p6 w_CS w_SIO h0 n0 _ T337.heap _
        rw [e337]
        exact ⟨by rw [eq32], N337, trivial⟩
    · have eq33 : (f0 q1 p2 p3 p4 p5 p6 w_CS) = (0 : Int32) := by unfold f0; simp only [if_neg hc484, if_neg hc551]
      obtain ⟨fs, hr, hrun, hended, hW, hsame⟩ := X337.leave (v := some (.int (0 : Int32))) (fun h => by rw [Bd.returns] at h; cases h)
      refine ⟨_, _, pre31 _ ?_, hrun, hended, _, _, rfl, ?_, ⟨_, rfl⟩, hW, hsame.mono (by decide) (by decide)⟩
      · show Steps p.tables e below (T337.setTop (mkF m 551 #[.val (.long q1), .second, .val (.int p2), .val (.int p3), .val (.int p4), .val (.int p5), .val (.int p6), .val (.int (f0_v6 p4)), .val (.int (f0_v16 p5)), .val (.int (f0_s0_31 p6)), .val (.int (f0_s0_45 p6)), .val (.int (f0_v54 p6)), .val (.long (f0_s0_78 p5)), .second, .val (.int (p2.toInt8.toInt32)), .val (.int (p2.toUInt32.toUInt16.toUInt32.toInt32)), .val (.int (p3 &&& (65535 : Int32))), .val (.int ((f0_s0_113 p3).toUInt32.toUInt16.toUInt32.toInt32)), .val (.ref b7), .val (.ref b15), .val (.ref b313), .val (.long (f7b (f0_v6 p4) (f0_v16 p5) (12 : Int32) (f0_v320 q1 p2 p4))), .second, .val (.long (q1 &&& (f0_s0_78 p5))), .second] [(.int (lcmpW (f7b (f0_v6 p4) (f0_v16 p5) (12 : Int32) (f0_v320 q1 p2 p4)) (q1 &&& (f0_s0_78 p5))))])) _
        refine XS.ifYes X337.here hx rfl (pc0 := 551) (pc' := 558) rfl (hb hby at_551) rfl ((if0 _ _).trans (feq (fun q => hc551 ((lw_eq _ _).mp q))).2) (by decide) (by decide) ?_
        show Steps p.tables e below (T337.setTop (mkF m 558 #[.val (.long q1), .second, .val (.int p2), .val (.int p3), .val (.int p4), .val (.int p5), .val (.int p6), .val (.int (f0_v6 p4)), .val (.int (f0_v16 p5)), .val (.int (f0_s0_31 p6)), .val (.int (f0_s0_45 p6)), .val (.int (f0_v54 p6)), .val (.long (f0_s0_78 p5)), .second, .val (.int (p2.toInt8.toInt32)), .val (.int (p2.toUInt32.toUInt16.toUInt32.toInt32)), .val (.int (p3 &&& (65535 : Int32))), .val (.int ((f0_s0_113 p3).toUInt32.toUInt16.toUInt32.toInt32)), .val (.ref b7), .val (.ref b15), .val (.ref b313), .val (.long (f7b (f0_v6 p4) (f0_v16 p5) (12 : Int32) (f0_v320 q1 p2 p4))), .second, .val (.long (q1 &&& (f0_s0_78 p5))), .second] [])) _
        refine XS.iconst X337.here hx rfl (hb hby at_558) ?_
        show Steps p.tables e below (T337.setTop (mkF m 559 #[.val (.long q1), .second, .val (.int p2), .val (.int p3), .val (.int p4), .val (.int p5), .val (.int p6), .val (.int (f0_v6 p4)), .val (.int (f0_v16 p5)), .val (.int (f0_s0_31 p6)), .val (.int (f0_s0_45 p6)), .val (.int (f0_v54 p6)), .val (.long (f0_s0_78 p5)), .second, .val (.int (p2.toInt8.toInt32)), .val (.int (p2.toUInt32.toUInt16.toUInt32.toInt32)), .val (.int (p3 &&& (65535 : Int32))), .val (.int ((f0_s0_113 p3).toUInt32.toUInt16.toUInt32.toInt32)), .val (.ref b7), .val (.ref b15), .val (.ref b313), .val (.long (f7b (f0_v6 p4) (f0_v16 p5) (12 : Int32) (f0_v320 q1 p2 p4))), .second, .val (.long (q1 &&& (f0_s0_78 p5))), .second] [(.int (0 : Int32))])) _
        exact retN X337 hx (t := .boolean) Bd.returns (by simp) (hb hby at_559) hr
      · show Q0 Z q1 p2 p3 p4 p5 p6 w_CS w_SIO h0 n0 _ T337.heap _
        rw [e337]
        exact ⟨by rw [eq33], N337, trivial⟩
def own_S (b : Nat → Nat) : Nat → Nat
  | 0 => 0
  | m + 1 => own_S b m + 256 ^ m * b m
theorem own_Smod (W : Nat) (b : Nat → Nat) (n : Nat) (h : ∀ m, m < n → b m = W / 256 ^ m % 256) : own_S b n = W % 256 ^ n := by
  induction n with
  | zero => simp [own_S, Nat.mod_one]
  | succ n ih =>
    rw [own_S, ih (fun m hm => h m (by omega)), h n (by omega), Nat.pow_succ, Nat.mod_mul]
theorem own_W (q : Int64) : (q.toBitVec.toNat : Int) = q.toInt % 18446744073709551616 := by
  have h := q.toBitVec.isLt
  show _ = q.toBitVec.toInt % 18446744073709551616
  rw [BitVec.toInt_eq_toNat_cond]; split <;> omega
theorem own_sh64 (j b : Int64) (hb : 0 ≤ b.toInt ∧ b.toInt < 256) : (((j <<< ((8 : Int32) &&& 0x3f).toInt64) ||| b).toInt - (j.toInt * 256 + b.toInt)) % 18446744073709551616 = 0 := by
  have a := c_lshl j 8 8 rfl
  have o := c_orL (j <<< ((8 : Int32) &&& 0x3f).toInt64) b 8 (by decide) 256 rfl (by omega) hb.1 hb.2
  omega
theorem own_mstep {r j' j b P S : Int} (h1 : (r - (j' * P + S)) % 18446744073709551616 = 0) (h2 : (j' - (j * 256 + b)) % 18446744073709551616 = 0) : (r - (j * (P * 256) + (S + P * b))) % 18446744073709551616 = 0 := by
  obtain ⟨u, hu⟩ := Int.dvd_of_emod_eq_zero h1
  obtain ⟨v, hv⟩ := Int.dvd_of_emod_eq_zero h2
  apply Int.emod_eq_zero_of_dvd
  have e : r - (j * (P * 256) + (S + P * b)) = (r - (j' * P + S)) + (j' - (j * 256 + b)) * P := by
    rw [Int.sub_mul, Int.add_mul, Int.mul_assoc j 256 P, Int.mul_comm 256 P, Int.mul_comm b P]; omega
  exact ⟨u + v * P, by rw [e, hu, hv, Int.mul_add, Int.mul_assoc]⟩
theorem own_gb (p3 p4 z : Int32) (c : Nat → Int32) (t : Nat) (ht : p3.toInt = t) (h3 : t ≤ 3) (b : Nat → Nat) (n : Nat) (hn : n ≤ 8) (hb : ∀ m, m < n → b m < 256 ∧ ((c (t + m)).toInt - (b m : Int)) % 256 = 0) : ∀ (m k : Nat) (j : Int64) (i : Int32), m ≤ n → i.toInt = (m : Int) - 1 → m < k → ((g7b_12 p3 p4 z c k j i).toInt - (j.toInt * ((256 ^ m : Nat) : Int) + (own_S b m : Int))) % 18446744073709551616 = 0 := by
  intro m
  induction m with
  | zero =>
    intro k j i _ hi hk
    obtain ⟨k, rfl⟩ : ∃ q, k = q + 1 := ⟨k - 1, by omega⟩
    simp only [g7b_12]
    rw [if_pos (by rw [Int32.lt_iff_toInt_lt, hi, own_e0]; omega)]
    simp [own_S]
  | succ m ih =>
    intro k j i hm hi hk
    obtain ⟨k, rfl⟩ : ∃ q, k = q + 1 := ⟨k - 1, by omega⟩
    simp only [g7b_12]
    rw [if_neg (by rw [Int32.lt_iff_toInt_lt, hi, own_e0]; omega)]
    have hi' : i.toInt = (m : Int) := by omega
    have ix : (p3 + i).toNatClampNeg = t + m := own_cl32 (by rw [own_pi (by omega) (by omega) (by omega) (by omega), ht, hi']; rfl)
    rw [ix]
    have q := hb m (by omega)
    have mk := c_maskL (c (t + m)).toInt64 255 8 (by decide) rfl
    rw [c_i2l] at mk
    have mk' : ((c (t + m)).toInt64 &&& 255).toInt = (b m : Int) := by omega
    have s := own_sh64 j ((c (t + m)).toInt64 &&& 255) (by omega)
    have r := ih k ((j <<< ((8 : Int32) &&& 0x3f).toInt64) ||| ((c (t + m)).toInt64 &&& 255)) (i + -1) (by omega) (by rw [own_dec (by omega)]; omega) (by omega)
    have f := own_mstep r s
    rw [mk'] at f
    rw [own_S, Nat.pow_succ, Int.natCast_add, Int.natCast_mul, Int.natCast_mul]
    exact f
theorem own_or128 (a b : Int32) (ha : 0 ≤ a.toInt ∧ a.toInt < 128) (hb : 0 ≤ b.toInt ∧ b.toInt < 128) : 0 ≤ (a ||| b).toInt ∧ (a ||| b).toInt < 128 := by
  have h1 := own_nat a
  have h2 := own_nat b
  have h3 := own_nat (a ||| b)
  have e : (a ||| b).toBitVec.toNat = a.toBitVec.toNat ||| b.toBitVec.toNat := by
    show (a.toBitVec ||| b.toBitVec).toNat = _
    rw [BitVec.toNat_or]
  have l : a.toBitVec.toNat ||| b.toBitVec.toNat < 2 ^ 7 := Nat.or_lt_two_pow (by omega) (by omega)
  have r := rng32 (a ||| b)
  omega
theorem own_gn1 (p3 p4 w co z : Int32) (c : Nat → Int32) (e : Nat → Nat) (n : Nat) (hn : n ≤ 8) (hF : ∀ (i : Int32) (m : Nat), i.toInt = m → m < n → (f8 (p3 + i) w co z c).toInt = (e m : Int)) (he : ∀ m, m < n → e m < 128) : ∀ (m k : Nat) (j : Int64) (i6 i : Int32), m ≤ n → i.toInt = (m : Int) - 1 → m < k → (0 ≤ i6.toInt ∧ i6.toInt < 128) → ((g7n_53 p3 p4 w co z c k j i6 i).toInt - (j.toInt * ((256 ^ m : Nat) : Int) + (own_S e m : Int))) % 18446744073709551616 = 0 := by
  intro m
  induction m with
  | zero =>
    intro k j i6 i _ hi hk h6
    obtain ⟨k, rfl⟩ : ∃ q, k = q + 1 := ⟨k - 1, by omega⟩
    simp only [g7n_53]
    rw [if_pos (by rw [Int32.lt_iff_toInt_lt, hi, own_e0]; omega), if_pos (by rw [Int32.lt_iff_toInt_lt, show (128 : Int32).toInt = 128 from rfl]; omega)]
    simp [own_S]
  | succ m ih =>
    intro k j i6 i hm hi hk h6
    obtain ⟨k, rfl⟩ : ∃ q, k = q + 1 := ⟨k - 1, by omega⟩
    simp only [g7n_53]
    rw [if_neg (by rw [Int32.lt_iff_toInt_lt, hi, own_e0]; omega)]
    have hx := hF i m (by omega) (by omega)
    have hx2 := he m (by omega)
    generalize f8 (p3 + i) w co z c = x at *
    have s := own_sh64 j x.toInt64 (by rw [c_i2l]; omega)
    have r := ih k ((j <<< ((8 : Int32) &&& 0x3f).toInt64) ||| x.toInt64) (i6 ||| x) (i + -1) (by omega) (by rw [own_dec (by omega)]; omega) (by omega) (own_or128 i6 x h6 (by omega))
    have f := own_mstep r s
    rw [c_i2l, hx] at f
    rw [own_S, Nat.pow_succ, Int.natCast_add, Int.natCast_mul, Int.natCast_mul]
    exact f
theorem own_gn2 (p3 p4 w co z : Int32) (c : Nat → Int32) (e : Nat → Nat) (n : Nat) (hn : n ≤ 8) (hF : ∀ (i : Int32) (m : Nat), i.toInt = m → m < n → (f8 (p3 + i) w co z c).toInt = (e m : Int)) : ∀ (m k : Nat) (j : Int64) (i6 i : Int32), m ≤ n → i.toInt = (m : Int) - 1 → m < k → 0 ≤ i6.toInt → (128 ≤ i6.toInt ∨ ∃ m0, m0 < m ∧ 128 ≤ e m0) → g7n_53 p3 p4 w co z c k j i6 i = -1 := by
  intro m
  induction m with
  | zero =>
    intro k j i6 i _ hi hk h6 h
    obtain ⟨k, rfl⟩ : ∃ q, k = q + 1 := ⟨k - 1, by omega⟩
    have h' : 128 ≤ i6.toInt := by
      rcases h with h | ⟨m0, h, -⟩
      · exact h
      · omega
    simp only [g7n_53]
    rw [if_pos (by rw [Int32.lt_iff_toInt_lt, hi, own_e0]; omega), if_neg (by rw [Int32.lt_iff_toInt_lt, show (128 : Int32).toInt = 128 from rfl]; omega)]
  | succ m ih =>
    intro k j i6 i hm hi hk h6 h
    obtain ⟨k, rfl⟩ : ∃ q, k = q + 1 := ⟨k - 1, by omega⟩
    simp only [g7n_53]
    rw [if_neg (by rw [Int32.lt_iff_toInt_lt, hi, own_e0]; omega)]
    have hx := hF i m (by omega) (by omega)
    generalize f8 (p3 + i) w co z c = x at *
    have o1 := (c_orS i6 x).1 h6 (by omega)
    have o2 := c_or0 i6 x h6 (by omega)
    refine ih k _ (i6 ||| x) (i + -1) (by omega) (by rw [own_dec (by omega)]; omega) (by omega) o1 ?_
    rcases h with h | ⟨m0, h, h2⟩
    · exact Or.inl (by omega)
    · by_cases q : m0 = m
      · subst q; exact Or.inl (by omega)
      · exact Or.inr ⟨m0, by omega, h2⟩
theorem own_f8 (c : Nat → Int32) (w : Int32) (hcs : ¬ w = 0) (hch : ∀ i, 0 ≤ (c i).toInt ∧ (c i).toInt < 65536) (p : Int32) (n : Nat) (hp : p.toInt = n) (hn : n < 12) : f8 p w (f1_o0 0 12 c w) (f1_x0n 0 12 c w) (f1_x0c 0 12 c w) = c n := by
  have r := hch n
  rcases own_f5 12 c with ⟨a, b⟩ | a
  · have ho : f1_o0 0 12 c w = 0 := by
      unfold f1_o0 f2_o0 f6 f4_x0n
      simp only [if_pos a]
      decide
    have hx : f1_x0c 0 12 c w n = nar .byte ((c n).toInt8.toInt32) := by
      unfold f1_x0c f2_x0c f4_x0c
      rw [if_pos a]; exact (b n hn).2
    have hb := (b n hn).1
    unfold f8 f9
    rw [ho, if_neg hcs, if_pos rfl, if_neg (by decide)]
    unfold f10
    rw [own_cl32 hp, hx]
    have k0 := own_nbyte (c n)
    generalize nar .byte ((c n).toInt8.toInt32) = x at *
    have k1 := c_mask x 255 8 (by decide) rfl
    have k2 := own_nchar (x &&& 255)
    generalize nar .char ((x &&& 255).toUInt32.toUInt16.toUInt32.toInt32) = y at *
    have k3 := c_i2c y
    apply Int32.toInt_inj.mp
    show y.toUInt32.toUInt16.toUInt32.toInt32.toInt = _
    omega
  · have hne : ¬ f5 0 0 12 12 c 12 (fun _ => 0) = 12 := fun q => by rw [q, own_e12] at a; omega
    have ho : f1_o0 0 12 c w = 1 := by
      unfold f1_o0 f2_o0 f6 f4_x0n
      simp only [if_neg hne]
      rw [show f13_x0n 0 12 12 c = 24 from own_13n 0 12 c 13 0 0 _ (own_t4 rfl)]
      decide
    have hx : f1_x0c 0 12 c w = f13_x0c 0 12 12 c := by
      unfold f1_x0c f2_x0c f4_x0c
      rw [if_neg hne]
    unfold f8 f9
    rw [ho, if_neg hcs, if_pos (by decide)]
    unfold f18
    rw [hx, own_get 12 _ c hch p n hp hn]
    have k3 := c_i2c (c n)
    have k4 := c_i2c ((c n).toUInt32.toUInt16.toUInt32.toInt32)
    apply Int32.toInt_inj.mp
    show ((c n).toUInt32.toUInt16.toUInt32.toInt32).toUInt32.toUInt16.toUInt32.toInt32.toInt = _
    omega
theorem own_bt (x : Int64) : ((nar .byte ((x.toInt32).toInt8.toInt32)).toInt - x.toInt) % 256 = 0 := by
  have a := own_nbyte x.toInt32
  have b := c_l2i x
  omega
theorem own_cv (x : Int64) : (nar .char (((x &&& 127).toInt32).toUInt32.toUInt16.toUInt32.toInt32)).toInt = x.toInt % 128 := by
  have a := own_nchar (x &&& 127).toInt32
  have b := c_l2i (x &&& 127)
  have d := c_maskL x 127 7 (by decide) rfl
  have r := rng32 (x &&& 127).toInt32
  omega
theorem own_cb (q1 : Int64) (p2 p4 : Int32) (t : Nat) (ht : (f0_v6 p4).toInt = t) (m : Nat) (hm : m < 8) : (((f0_v320 q1 p2 p4 (t + m))).toInt - ((q1.toBitVec.toNat / 256 ^ m % 256 : Nat) : Int)) % 256 = 0 := by
  have e0 : (f0_v6 p4).toNatClampNeg = t := own_cl32 ht
  have e1 : (f0_v6 p4 + 1).toNatClampNeg = t + 1 := own_cl32 (by rw [own_tn p4 1 (by decide), ht]; rfl)
  have e2 : (f0_v6 p4 + 2).toNatClampNeg = t + 2 := own_cl32 (by rw [own_tn p4 2 (by decide), ht]; rfl)
  have e3 : (f0_v6 p4 + 3).toNatClampNeg = t + 3 := own_cl32 (by rw [own_tn p4 3 (by decide), ht]; rfl)
  have e4 : (f0_v6 p4 + 4).toNatClampNeg = t + 4 := own_cl32 (by rw [own_tn p4 4 (by decide), ht]; rfl)
  have e5 : (f0_v6 p4 + 5).toNatClampNeg = t + 5 := own_cl32 (by rw [own_tn p4 5 (by decide), ht]; rfl)
  have e6 : (f0_v6 p4 + 6).toNatClampNeg = t + 6 := own_cl32 (by rw [own_tn p4 6 (by decide), ht]; rfl)
  have e7 : (f0_v6 p4 + 7).toNatClampNeg = t + 7 := own_cl32 (by rw [own_tn p4 7 (by decide), ht]; rfl)
  have hW := own_W q1
  simp only [f0_v227, f0_v240, f0_v253, f0_v266, f0_v279, f0_v292, f0_v306, f0_v320, ownU, e0, e1, e2, e3, e4, e5, e6, e7]
  by_cases hm0 : m = 0
  · subst hm0
    rw [if_neg (by omega), if_neg (by omega), if_neg (by omega), if_neg (by omega), if_neg (by omega), if_neg (by omega), if_neg (by omega), if_pos (by omega)]
    rw [show (256 ^ 0 : Nat) = 1 from rfl]
    have b := own_bt q1
    clear e0 e1 e2 e3 e4 e5 e6 e7
    generalize nar .byte _ = v at *
    omega
  by_cases hm1 : m = 1
  · subst hm1
    rw [if_neg (by omega), if_neg (by omega), if_neg (by omega), if_neg (by omega), if_neg (by omega), if_neg (by omega), if_pos (by omega)]
    rw [show (256 ^ 1 : Nat) = 256 from rfl]
    have s := c_lushr q1 8 8 rfl (by decide)
    have b := own_bt ((q1.toUInt64 >>> ((8 : Int32) &&& 0x3f).toInt64.toUInt64).toInt64)
    clear e0 e1 e2 e3 e4 e5 e6 e7
    generalize ((q1.toUInt64 >>> ((8 : Int32) &&& 0x3f).toInt64.toUInt64).toInt64) = y at *
    generalize nar .byte _ = v at *
    omega
  by_cases hm2 : m = 2
  · subst hm2
    rw [if_neg (by omega), if_neg (by omega), if_neg (by omega), if_neg (by omega), if_neg (by omega), if_pos (by omega)]
    rw [show (256 ^ 2 : Nat) = 65536 from rfl]
    have s := c_lushr q1 16 16 rfl (by decide)
    have b := own_bt ((q1.toUInt64 >>> ((16 : Int32) &&& 0x3f).toInt64.toUInt64).toInt64)
    clear e0 e1 e2 e3 e4 e5 e6 e7
    generalize ((q1.toUInt64 >>> ((16 : Int32) &&& 0x3f).toInt64.toUInt64).toInt64) = y at *
    generalize nar .byte _ = v at *
    omega
  by_cases hm3 : m = 3
  · subst hm3
    rw [if_neg (by omega), if_neg (by omega), if_neg (by omega), if_neg (by omega), if_pos (by omega)]
    rw [show (256 ^ 3 : Nat) = 16777216 from rfl]
    have s := c_lushr q1 24 24 rfl (by decide)
    have b := own_bt ((q1.toUInt64 >>> ((24 : Int32) &&& 0x3f).toInt64.toUInt64).toInt64)
    clear e0 e1 e2 e3 e4 e5 e6 e7
    generalize ((q1.toUInt64 >>> ((24 : Int32) &&& 0x3f).toInt64.toUInt64).toInt64) = y at *
    generalize nar .byte _ = v at *
    omega
  by_cases hm4 : m = 4
  · subst hm4
    rw [if_neg (by omega), if_neg (by omega), if_neg (by omega), if_pos (by omega)]
    rw [show (256 ^ 4 : Nat) = 4294967296 from rfl]
    have s := c_lushr q1 32 32 rfl (by decide)
    have b := own_bt ((q1.toUInt64 >>> ((32 : Int32) &&& 0x3f).toInt64.toUInt64).toInt64)
    clear e0 e1 e2 e3 e4 e5 e6 e7
    generalize ((q1.toUInt64 >>> ((32 : Int32) &&& 0x3f).toInt64.toUInt64).toInt64) = y at *
    generalize nar .byte _ = v at *
    omega
  by_cases hm5 : m = 5
  · subst hm5
    rw [if_neg (by omega), if_neg (by omega), if_pos (by omega)]
    rw [show (256 ^ 5 : Nat) = 1099511627776 from rfl]
    have s := c_lushr q1 40 40 rfl (by decide)
    have b := own_bt ((q1.toUInt64 >>> ((40 : Int32) &&& 0x3f).toInt64.toUInt64).toInt64)
    clear e0 e1 e2 e3 e4 e5 e6 e7
    generalize ((q1.toUInt64 >>> ((40 : Int32) &&& 0x3f).toInt64.toUInt64).toInt64) = y at *
    generalize nar .byte _ = v at *
    omega
  by_cases hm6 : m = 6
  · subst hm6
    rw [if_neg (by omega), if_pos (by omega)]
    rw [show (256 ^ 6 : Nat) = 281474976710656 from rfl]
    have s := c_lushr q1 48 48 rfl (by decide)
    have b := own_bt ((q1.toUInt64 >>> ((48 : Int32) &&& 0x3f).toInt64.toUInt64).toInt64)
    clear e0 e1 e2 e3 e4 e5 e6 e7
    generalize ((q1.toUInt64 >>> ((48 : Int32) &&& 0x3f).toInt64.toUInt64).toInt64) = y at *
    generalize nar .byte _ = v at *
    omega
  by_cases hm7 : m = 7
  · subst hm7
    rw [if_pos (by omega)]
    rw [show (256 ^ 7 : Nat) = 72057594037927936 from rfl]
    have s := c_lushr q1 56 56 rfl (by decide)
    have b := own_bt ((q1.toUInt64 >>> ((56 : Int32) &&& 0x3f).toInt64.toUInt64).toInt64)
    clear e0 e1 e2 e3 e4 e5 e6 e7
    generalize ((q1.toUInt64 >>> ((56 : Int32) &&& 0x3f).toInt64.toUInt64).toInt64) = y at *
    generalize nar .byte _ = v at *
    omega
  omega
theorem own_cc (q1 : Int64) (p2 p4 : Int32) (t : Nat) (ht : (f0_v6 p4).toInt = t) (m : Nat) (hm : m < 8) : ((f0_v453 q1 p2 p4 (t + m))).toInt = ((q1.toBitVec.toNat / 256 ^ m % 128 : Nat) : Int) := by
  have e0 : (f0_v6 p4).toNatClampNeg = t := own_cl32 ht
  have e1 : (f0_v6 p4 + 1).toNatClampNeg = t + 1 := own_cl32 (by rw [own_tn p4 1 (by decide), ht]; rfl)
  have e2 : (f0_v6 p4 + 2).toNatClampNeg = t + 2 := own_cl32 (by rw [own_tn p4 2 (by decide), ht]; rfl)
  have e3 : (f0_v6 p4 + 3).toNatClampNeg = t + 3 := own_cl32 (by rw [own_tn p4 3 (by decide), ht]; rfl)
  have e4 : (f0_v6 p4 + 4).toNatClampNeg = t + 4 := own_cl32 (by rw [own_tn p4 4 (by decide), ht]; rfl)
  have e5 : (f0_v6 p4 + 5).toNatClampNeg = t + 5 := own_cl32 (by rw [own_tn p4 5 (by decide), ht]; rfl)
  have e6 : (f0_v6 p4 + 6).toNatClampNeg = t + 6 := own_cl32 (by rw [own_tn p4 6 (by decide), ht]; rfl)
  have e7 : (f0_v6 p4 + 7).toNatClampNeg = t + 7 := own_cl32 (by rw [own_tn p4 7 (by decide), ht]; rfl)
  have hW := own_W q1
  simp only [f0_v332, f0_v349, f0_v366, f0_v383, f0_v400, f0_v417, f0_v435, f0_v453, ownU, e0, e1, e2, e3, e4, e5, e6, e7]
  by_cases hm0 : m = 0
  · subst hm0
    rw [if_neg (by omega), if_neg (by omega), if_neg (by omega), if_neg (by omega), if_neg (by omega), if_neg (by omega), if_neg (by omega), if_pos (by omega)]
    rw [show (256 ^ 0 : Nat) = 1 from rfl]
    have b := own_cv q1
    clear e0 e1 e2 e3 e4 e5 e6 e7
    generalize nar .char _ = v at *
    omega
  by_cases hm1 : m = 1
  · subst hm1
    rw [if_neg (by omega), if_neg (by omega), if_neg (by omega), if_neg (by omega), if_neg (by omega), if_neg (by omega), if_pos (by omega)]
    rw [show (256 ^ 1 : Nat) = 256 from rfl]
    have s := c_lushr q1 8 8 rfl (by decide)
    have b := own_cv ((q1.toUInt64 >>> ((8 : Int32) &&& 0x3f).toInt64.toUInt64).toInt64)
    clear e0 e1 e2 e3 e4 e5 e6 e7
    generalize ((q1.toUInt64 >>> ((8 : Int32) &&& 0x3f).toInt64.toUInt64).toInt64) = y at *
    generalize nar .char _ = v at *
    omega
  by_cases hm2 : m = 2
  · subst hm2
    rw [if_neg (by omega), if_neg (by omega), if_neg (by omega), if_neg (by omega), if_neg (by omega), if_pos (by omega)]
    rw [show (256 ^ 2 : Nat) = 65536 from rfl]
    have s := c_lushr q1 16 16 rfl (by decide)
    have b := own_cv ((q1.toUInt64 >>> ((16 : Int32) &&& 0x3f).toInt64.toUInt64).toInt64)
    clear e0 e1 e2 e3 e4 e5 e6 e7
    generalize ((q1.toUInt64 >>> ((16 : Int32) &&& 0x3f).toInt64.toUInt64).toInt64) = y at *
    generalize nar .char _ = v at *
    omega
  by_cases hm3 : m = 3
  · subst hm3
    rw [if_neg (by omega), if_neg (by omega), if_neg (by omega), if_neg (by omega), if_pos (by omega)]
    rw [show (256 ^ 3 : Nat) = 16777216 from rfl]
    have s := c_lushr q1 24 24 rfl (by decide)
    have b := own_cv ((q1.toUInt64 >>> ((24 : Int32) &&& 0x3f).toInt64.toUInt64).toInt64)
    clear e0 e1 e2 e3 e4 e5 e6 e7
    generalize ((q1.toUInt64 >>> ((24 : Int32) &&& 0x3f).toInt64.toUInt64).toInt64) = y at *
    generalize nar .char _ = v at *
    omega
  by_cases hm4 : m = 4
  · subst hm4
    rw [if_neg (by omega), if_neg (by omega), if_neg (by omega), if_pos (by omega)]
    rw [show (256 ^ 4 : Nat) = 4294967296 from rfl]
    have s := c_lushr q1 32 32 rfl (by decide)
    have b := own_cv ((q1.toUInt64 >>> ((32 : Int32) &&& 0x3f).toInt64.toUInt64).toInt64)
    clear e0 e1 e2 e3 e4 e5 e6 e7
    generalize ((q1.toUInt64 >>> ((32 : Int32) &&& 0x3f).toInt64.toUInt64).toInt64) = y at *
    generalize nar .char _ = v at *
    omega
  by_cases hm5 : m = 5
  · subst hm5
    rw [if_neg (by omega), if_neg (by omega), if_pos (by omega)]
    rw [show (256 ^ 5 : Nat) = 1099511627776 from rfl]
    have s := c_lushr q1 40 40 rfl (by decide)
    have b := own_cv ((q1.toUInt64 >>> ((40 : Int32) &&& 0x3f).toInt64.toUInt64).toInt64)
    clear e0 e1 e2 e3 e4 e5 e6 e7
    generalize ((q1.toUInt64 >>> ((40 : Int32) &&& 0x3f).toInt64.toUInt64).toInt64) = y at *
    generalize nar .char _ = v at *
    omega
  by_cases hm6 : m = 6
  · subst hm6
    rw [if_neg (by omega), if_pos (by omega)]
    rw [show (256 ^ 6 : Nat) = 281474976710656 from rfl]
    have s := c_lushr q1 48 48 rfl (by decide)
    have b := own_cv ((q1.toUInt64 >>> ((48 : Int32) &&& 0x3f).toInt64.toUInt64).toInt64)
    clear e0 e1 e2 e3 e4 e5 e6 e7
    generalize ((q1.toUInt64 >>> ((48 : Int32) &&& 0x3f).toInt64.toUInt64).toInt64) = y at *
    generalize nar .char _ = v at *
    omega
  by_cases hm7 : m = 7
  · subst hm7
    rw [if_pos (by omega)]
    rw [show (256 ^ 7 : Nat) = 72057594037927936 from rfl]
    have s := c_lushr q1 56 56 rfl (by decide)
    have b := own_cv ((q1.toUInt64 >>> ((56 : Int32) &&& 0x3f).toInt64.toUInt64).toInt64)
    clear e0 e1 e2 e3 e4 e5 e6 e7
    generalize ((q1.toUInt64 >>> ((56 : Int32) &&& 0x3f).toInt64.toUInt64).toInt64) = y at *
    generalize nar .char _ = v at *
    omega
  omega
theorem own_msk (p5 : Int32) (n : Nat) (h : (f0_v16 p5).toInt = n) (hn : n ≤ 8) : (f0_s0_78 p5).toBitVec.toNat = 256 ^ n - 1 := by
  unfold f0_s0_78
  match n, hn, h with
  | 0, _, h => rw [show f0_v16 p5 = 0 from Int32.toInt_inj.mp (h.trans rfl)]; decide
  | 1, _, h => rw [show f0_v16 p5 = 1 from Int32.toInt_inj.mp (h.trans rfl)]; decide
  | 2, _, h => rw [show f0_v16 p5 = 2 from Int32.toInt_inj.mp (h.trans rfl)]; decide
  | 3, _, h => rw [show f0_v16 p5 = 3 from Int32.toInt_inj.mp (h.trans rfl)]; decide
  | 4, _, h => rw [show f0_v16 p5 = 4 from Int32.toInt_inj.mp (h.trans rfl)]; decide
  | 5, _, h => rw [show f0_v16 p5 = 5 from Int32.toInt_inj.mp (h.trans rfl)]; decide
  | 6, _, h => rw [show f0_v16 p5 = 6 from Int32.toInt_inj.mp (h.trans rfl)]; decide
  | 7, _, h => rw [show f0_v16 p5 = 7 from Int32.toInt_inj.mp (h.trans rfl)]; decide
  | 8, _, h => rw [show f0_v16 p5 = 8 from Int32.toInt_inj.mp (h.trans rfl)]; decide
theorem own_exp (x : Int64) (p5 : Int32) (n : Nat) (h : (f0_v16 p5).toInt = n) (hn : n ≤ 8) : ((x &&& f0_s0_78 p5).toInt - ((x.toBitVec.toNat % 256 ^ n : Nat) : Int)) % 18446744073709551616 = 0 := by
  have e : (x &&& f0_s0_78 p5).toBitVec.toNat = x.toBitVec.toNat % 256 ^ n := by
    show (x.toBitVec &&& (f0_s0_78 p5).toBitVec).toNat = _
    rw [BitVec.toNat_and, own_msk p5 n h hn, show (256 : Nat) = 2 ^ 8 from rfl, ← Nat.pow_mul, Nat.and_two_pow_sub_one_eq_mod]
  have a := own_W (x &&& f0_s0_78 p5)
  rw [e] at a
  omega
theorem own_eq64 {x y : Int64} {V : Int} (h1 : (x.toInt - V) % 18446744073709551616 = 0) (h2 : (y.toInt - V) % 18446744073709551616 = 0) : x = y := by
  have a := rng64 x
  have b := rng64 y
  apply Int64.toInt_inj.mp
  omega
theorem own_7f (W m : Nat) (hm : m < 8) : W / 256 ^ m % 128 = (W &&& 9187201950435737471) / 256 ^ m % 256 := by
  have e : (W &&& 9187201950435737471) / 256 ^ m % 256 = (W / 256 ^ m % 256) &&& (9187201950435737471 / 256 ^ m % 256) := by
    rw [show (256 : Nat) = 2 ^ 8 from rfl, ← Nat.pow_mul, ← Nat.shiftRight_eq_div_pow, ← Nat.shiftRight_eq_div_pow, ← Nat.shiftRight_eq_div_pow, Nat.shiftRight_and_distrib, Nat.and_mod_two_pow]
  have d : 9187201950435737471 / 256 ^ m % 256 = 2 ^ 7 - 1 := by
    match m, hm with
    | 0, _ => decide
    | 1, _ => decide
    | 2, _ => decide
    | 3, _ => decide
    | 4, _ => decide
    | 5, _ => decide
    | 6, _ => decide
    | 7, _ => decide
  rw [e, d, Nat.and_two_pow_sub_one_eq_mod]
  omega
theorem own_nc (p3 : Int32) : 128 ≤ (nar .char ((f0_s0_113 p3).toUInt32.toUInt16.toUInt32.toInt32)).toInt := by
  have a := c_mask p3 65535 16 (by decide) rfl
  have b := own_nchar (f0_s0_113 p3)
  have h : 128 ≤ (f0_s0_113 p3).toInt ∧ (f0_s0_113 p3).toInt < 65536 := by
    unfold f0_s0_113
    split
    · rename_i q
      rw [Int32.lt_iff_toInt_lt, show (128 : Int32).toInt = 128 from rfl] at q
      have s := c_iadd (p3 &&& 65535) 128
      have r := rng32 ((p3 &&& 65535) + 128)
      rw [show (128 : Int32).toInt = 128 from rfl] at s
      omega
    · rename_i q
      rw [Int32.lt_iff_toInt_lt, show (128 : Int32).toInt = 128 from rfl] at q
      omega
  omega
theorem own_law (q1 : Int64) (p2 p3 p4 p5 p6 w : Int32) (hcs : ¬ w = 0) : f0 q1 p2 p3 p4 p5 p6 w = 1 := by
  have hs := own_st p4
  have hc := own_ct p5
  obtain ⟨t, ht⟩ : ∃ t : Nat, (f0_v6 p4).toInt = t := ⟨(f0_v6 p4).toInt.toNat, by omega⟩
  obtain ⟨n, hn⟩ : ∃ n : Nat, (f0_v16 p5).toInt = n := ⟨(f0_v16 p5).toInt.toNat, by omega⟩
  have hi : (f0_v16 p5 - 1).toInt = (n : Int) - 1 := by rw [own_p4 hc.1, hn]
  unfold f0
  by_cases hb : f0_s0_31 p6 = 0
  · rw [if_pos hb]
    have hch := own_chars q1 p2 p3 p4 p6
    have goal : f7n (f0_v6 p4) (f0_v16 p5) w (f1_o0 0 12 (f0_A_b15_469 q1 p2 p3 p4 p6) w) (f1_x0n 0 12 (f0_A_b15_469 q1 p2 p3 p4 p6) w) (f1_x0c 0 12 (f0_A_b15_469 q1 p2 p3 p4 p6) w) = f0_l23_546 q1 p5 p6 := by
      have hF : ∀ (i : Int32) (m : Nat), i.toInt = m → m < n → f8 (f0_v6 p4 + i) w (f1_o0 0 12 (f0_A_b15_469 q1 p2 p3 p4 p6) w) (f1_x0n 0 12 (f0_A_b15_469 q1 p2 p3 p4 p6) w) (f1_x0c 0 12 (f0_A_b15_469 q1 p2 p3 p4 p6) w) = f0_A_b15_469 q1 p2 p3 p4 p6 (t + m) := fun i m hm hl =>
        own_f8 _ w hcs hch _ (t + m) (by rw [own_pi (by omega) (by omega) (by omega) (by omega), ht, hm]; rfl) (by omega)
      have plainC : (∀ m, m < n → f0_A_b15_469 q1 p2 p3 p4 p6 (t + m) = f0_v453 q1 p2 p4 (t + m)) → f7n (f0_v6 p4) (f0_v16 p5) w (f1_o0 0 12 (f0_A_b15_469 q1 p2 p3 p4 p6) w) (f1_x0n 0 12 (f0_A_b15_469 q1 p2 p3 p4 p6) w) (f1_x0c 0 12 (f0_A_b15_469 q1 p2 p3 p4 p6) w) = (q1 &&& 9187201950435737471) &&& f0_s0_78 p5 := by
        intro hA
        have r := own_gn1 (f0_v6 p4) (f0_v16 p5) w _ _ _ (fun m => q1.toBitVec.toNat / 256 ^ m % 128) n (by omega) (fun i m hm hl => by rw [hF i m hm hl, hA m hl]; exact own_cc q1 p2 p4 t ht m (by omega)) (fun m _ => Nat.mod_lt _ (by decide)) n 10 0 0 (f0_v16 p5 - 1) (Nat.le_refl _) hi (by omega) (by decide)
        have x := own_exp (q1 &&& 9187201950435737471) p5 n hn (by omega)
        have y := own_Smod (q1.toBitVec.toNat &&& 9187201950435737471) (fun m => q1.toBitVec.toNat / 256 ^ m % 128) n (fun m hm => own_7f _ m (by omega))
        rw [show (q1 &&& 9187201950435737471).toBitVec.toNat = q1.toBitVec.toNat &&& 9187201950435737471 from (by show (q1.toBitVec &&& (9187201950435737471 : Int64).toBitVec).toNat = _; rw [BitVec.toNat_and]; rfl), ← y] at x
        rw [show (0 : Int64).toInt = 0 from rfl, Int.zero_mul, Int.zero_add] at r
        exact own_eq64 r x
      unfold f0_l23_546
      by_cases h45 : f0_s0_45 p6 = 0
      · rw [if_pos h45]
        exact plainC (fun m _ => by unfold f0_A_b15_469; rw [if_pos h45])
      · rw [if_neg h45]
        have hj := own_jj p6
        obtain ⟨jn, hjn⟩ : ∃ jn : Nat, (f0_v54 p6).toInt = jn := ⟨(f0_v54 p6).toInt.toNat, by omega⟩
        have ix : (f0_v6 p4 + f0_v54 p6).toNatClampNeg = t + jn := own_cl32 (by rw [own_tn p4 _ (by omega), ht, hjn]; rfl)
        have hA : ∀ i, f0_A_b15_469 q1 p2 p3 p4 p6 i = if i = t + jn then nar .char ((f0_s0_113 p3).toUInt32.toUInt16.toUInt32.toInt32) else f0_v453 q1 p2 p4 i := by
          intro i
          unfold f0_A_b15_469
          rw [if_neg h45]
          unfold f0_v468 ownU
          rw [ix]
        by_cases hlt : f0_v54 p6 < f0_v16 p5
        · rw [if_pos hlt]
          rw [Int32.lt_iff_toInt_lt, hn, hjn] at hlt
          refine own_gn2 (f0_v6 p4) (f0_v16 p5) w _ _ _ (fun m => (f0_A_b15_469 q1 p2 p3 p4 p6 (t + m)).toInt.toNat) n (by omega) (fun i m hm hl => by rw [hF i m hm hl]; exact (Int.toNat_of_nonneg (hch _).1).symm) n 10 0 0 (f0_v16 p5 - 1) (Nat.le_refl _) hi (by omega) (by decide) (Or.inr ⟨jn, by omega, ?_⟩)
          have z := own_nc p3
          show 128 ≤ (f0_A_b15_469 q1 p2 p3 p4 p6 (t + jn)).toInt.toNat
          rw [hA, if_pos rfl]
          omega
        · rw [if_neg hlt]
          rw [Int32.lt_iff_toInt_lt, hn, hjn] at hlt
          exact plainC (fun m hm => by rw [hA, if_neg (by omega)])
    rw [if_pos goal]
  · rw [if_neg hb]
    have goal : f7b (f0_v6 p4) (f0_v16 p5) 12 (f0_v320 q1 p2 p4) = q1 &&& f0_s0_78 p5 := by
      have r := own_gb (f0_v6 p4) (f0_v16 p5) 12 (f0_v320 q1 p2 p4) t ht (by omega) (fun m => q1.toBitVec.toNat / 256 ^ m % 256) n (by omega) (fun m hm => ⟨Nat.mod_lt _ (by decide), own_cb q1 p2 p4 t ht m (by omega)⟩) n 10 0 (f0_v16 p5 - 1) (Nat.le_refl _) hi (by omega)
      rw [own_Smod q1.toBitVec.toNat _ n (fun m _ => rfl), show (0 : Int64).toInt = 0 from rfl, Int.zero_mul, Int.zero_add] at r
      exact own_eq64 r (own_exp q1 p5 n hn (by omega))
    rw [if_pos goal]

set_option maxRecDepth 65536 in
set_option maxHeartbeats 40000000 in
theorem comes_1 {Post : Tables → Env → Array Value → State → Outcome → State → Prop} (hpost : ∀ tb e args s v u, (limb_1_1.after args s (.returned v) u = true ∧ limb_1_2.after args s (.returned v) u = true ∧ True) → FrameEnd s (.returned v) u (Jvm.fieldLocs frame_1_writes args s ++ Jvm.arrayLocs frame_1_arrays args s ++ Jvm.staticLocs frame_1_statics s) 24 192 → Post tb e args s (.returned v) u) :
    ArmFor flags0 classFile x code maxLocals ret World_1 tables_1 room_1 Calls_1 rest_1 Pre_1 Post := by
  intro l hfl _ _ p e ha hc hk s m args below hf hA hF happ hP
  obtain ⟨hcalls, hrest, hpre⟩ := hP
  obtain ⟨-, -, -, hnamed, -, -, -, hat⟩ := (Spec.applies_iff hf).mp happ
  obtain ⟨hg, hn⟩ := and_e (Cond.before_iff.mp (show (Jvm.Cond.and given_1 narrow_1).before args s = true from hpre))
  obtain ⟨g1, g2⟩ := and_e hg
  obtain ⟨g3, g4⟩ := and_e g2
  obtain ⟨g5, g6⟩ := and_e g4
  obtain ⟨g7, g8⟩ := and_e g6
  obtain ⟨g9, g10⟩ := and_e g8
  obtain ⟨g11, g12⟩ := and_e g10
  obtain ⟨w0, w1, w2, w3, w4, w5, rfl⟩ : ∃ w0 w1 w2 w3 w4 w5 : Value, args = #[w0, w1, w2, w3, w4, w5] := by
    have hs : args.size = 6 := by simpa [Cond.value, given_1] using g1
    obtain ⟨L⟩ := args
    match L, hs with
    | [w0, w1, w2, w3, w4, w5], _ => exact ⟨w0, w1, w2, w3, w4, w5, rfl⟩
  have hw := fun d (hd : d ∈ tables_1) => atoms_spec (ws := Jvm.Cond.code x code maxLocals ret :: tables_1) hat d (List.mem_cons_of_mem _ hd)
  have hfit : Fit s := fun {y c} hc i hi => by
    obtain ⟨ha, rfl⟩ := Array.getElem?_eq_some_iff.mp hc
    have q := List.all_eq_true.mp ((Array.all_eq_true_iff_forall_mem.mp hF) _ (Array.getElem_mem ha)) i (List.mem_range.mpr hi)
    simpa [Array.getElem?_eq_getElem hi] using q
  obtain ⟨i0, ei0⟩ := isL_v g3
  obtain rfl : w0 = (.long i0) := Option.some.inj ei0
  obtain ⟨i1, ei1⟩ := is_v g5
  obtain rfl : w1 = (.int i1) := Option.some.inj ei1
  obtain ⟨i2, ei2⟩ := is_v g7
  obtain rfl : w2 = (.int i2) := Option.some.inj ei2
  obtain ⟨i3, ei3⟩ := is_v g9
  obtain rfl : w3 = (.int i3) := Option.some.inj ei3
  obtain ⟨i4, ei4⟩ := is_v g11
  obtain rfl : w4 = (.int i4) := Option.some.inj ei4
  obtain ⟨i5, ei5⟩ := is_v g12
  obtain rfl : w5 = (.int i5) := Option.some.inj ei5
  obtain ⟨hsets, hown0⟩ := atoms_of _ (rest_1_c_eq ▸ (show rest_1_c.before _ s = true from hrest))
  obtain ⟨w_CS, e_CS⟩ := is_v (Cond.before_iff.mp (hsets _ (List.mem_of_getElem? (i := 1) rfl)))
  have S_CS : Sta s s.heap "java/lang/String" "COMPACT_STRINGS" "Z" (.int w_CS) := Sta.start e_CS (Or.inl (hsets _ (List.mem_of_getElem? (i := 0) rfl)))
  have hcs : ¬ w_CS = 0 := gotF (Cond.eq_ints e_CS rfl) (not_v (Cond.before_iff.mp (hsets _ (List.mem_of_getElem? (i := 2) rfl))))
  obtain ⟨w_SIO, e_SIO, r_SIO⟩ := isR_v (Cond.before_iff.mp (hsets _ (List.mem_of_getElem? (i := 8) rfl)))
  have S_SIO : Sta s s.heap "jdk/internal/util/Preconditions" "SIOOBE_FORMATTER" "Ljava/util/function/BiFunction;" w_SIO := Sta.start e_SIO (Or.inl (hsets _ (List.mem_of_getElem? (i := 7) rfl)))
  have hcat : w_SIO.category = 1 := own_cat r_SIO
  have eS_ad := own_eqint (Cond.before_iff.mp (hsets _ (List.mem_of_getElem? (i := 12) rfl)))
  have S_ad : Sta s s.heap "java/lang/StringUTF16" "$assertionsDisabled" "Z" (.int 1) := Sta.start eS_ad (Or.inl (hsets _ (List.mem_of_getElem? (i := 11) rfl)))
  have eS_hi := own_eqint (Cond.before_iff.mp (hsets _ (List.mem_of_getElem? (i := 15) rfl)))
  have S_hi : Sta s s.heap "java/lang/StringUTF16" "HI_BYTE_SHIFT" "I" (.int 0) := Sta.start eS_hi (Or.inl (hsets _ (List.mem_of_getElem? (i := 14) rfl)))
  have eS_lo := own_eqint (Cond.before_iff.mp (hsets _ (List.mem_of_getElem? (i := 18) rfl)))
  have S_lo : Sta s s.heap "java/lang/StringUTF16" "LO_BYTE_SHIFT" "I" (.int 8) := Sta.start eS_lo (Or.inl (hsets _ (List.mem_of_getElem? (i := 17) rfl)))
  obtain ⟨n, o, h1, h2, h3, v', L, rfl, ⟨hv', N, -⟩, hq⟩ := rm0 l s _ hw tables_1 i0 i1 i2 i3 i4 i5 w_CS w_SIO s.heap s.heap.size (Nat.le_refl _) S_CS hcs S_SIO hcat S_ad S_hi S_lo p e ha hc hk s m _ below hf ((Spec.applies_iff_loose hf).mp happ).1 ⟨rfl, State.Warmed39.refl s, rfl⟩ trivial
  rw [own_law i0 i1 i2 i3 i4 i5 w_CS hcs] at hv'
  subst hv'
  refine ⟨n, _, h1, h2, h3, hpost _ _ _ _ _ _ ⟨Cond.after_iff.mpr rfl, Cond.after_iff.mpr (eq_i res_at (Term.int_eval (1)) rfl), trivial⟩ ⟨hq.1, hq.2.1, (hq.2.2.sift fun y hy => Or.inr (N y hy)).mono (by decide) (by decide)⟩⟩
theorem main_1_1 : Claimed_1_1 := comes_1 fun _ _ _ _ _ _ h hF => ⟨h.1, hF⟩
theorem main_1_2 : Claimed_1_2 := comes_1 fun _ _ _ _ _ _ h hF => ⟨h.2.1, hF⟩
end Jvm.Pilot.@@N@@
namespace Jvm.Pilot.@@N@@
open Jvm Jvm.ClassFile Sem Op Lib Jvm.Free Jvm.Stand Jvm.Pilot.@@N@@.Jvm.D
/-! MADE BY PROGRAM (witnessworld.py) out of the Statement's table words and the real class files: 20 classes; the members and pool entries that the words name. The judged class is class 1, her method 1. -/
namespace start1
open Jvm.ClassFile
def u (s : String) : CpInfo := .utf8 (stringToUtf16 s)
/-- a pool by its gaps: so many unusable entries, then the entry; so many at the end -/
def gap : Nat → List CpInfo → List CpInfo
  | 0, r => r
  | n + 1, r => .unusable :: gap n r
def poolList (es : List (Nat × CpInfo)) (last : Nat) : List CpInfo := es.foldr (fun e r => gap e.1 (e.2 :: r)) (gap last [])
def pool (es : List (Nat × CpInfo)) (last : Nat) : Array CpInfo := ⟨poolList es last⟩
def fileOf (pool : Array CpInfo) (this : Nat) (attrs : Array Attribute := #[]) (ms : Array MethodInfo := #[]) (fl : Nat := 33) (sup : Nat := 0) (ifs : Array Nat := #[]) (fds : Array FieldInfo := #[]) : ClassFile where
  minorVersion := 0
  majorVersion := 65
  constantPool := pool
  accessFlags := fl
  thisClass := this
  superClass := sup
  interfaces := ifs
  fields := fds
  methods := ms
  attributes := attrs
def plain (name : String) (sup : Option ClassId) : Class where
  name := name
  kind := .ordinary
  loader := none
  accessFlags := 33
  super := sup
  interfaces := #[]
  cf := none
  fields := #[]
  methods := #[]
  instanceTypes := #[]
  staticTypes := #[]
  resolved := #[]
  callSites := []
  init := .initialized
  statics := none
  mirror := none

def pool0 : Array CpInfo := pool [(5, u "<init>"), (0, u "()V"), (1, .class_ 10), (1, u "java/lang/Object")] 113

def k0c0 : Code := { maxStack := 0, maxLocals := 1, code := object_method_1_code, exceptionTable := #[], attributes := #[] }
def k0m0 : Method := { name := "<init>", desc := "()V", sig := { parameters := [], returnType := none }, accessFlags := 1, code := some k0c0 }
/-- java/lang/Object -/
def k0 : Class := { plain "java/lang/Object" none with
  accessFlags := 33
  interfaces := #[]
  cf := some (fileOf pool0 8 #[] #[{ accessFlags := 1, nameIndex := 5, descriptorIndex := 6, attributes := #[] }] 33 0 #[] #[])
  fields := #[]
  methods := #[k0m0]
  instanceTypes := #[]
  staticTypes := #[]
  resolved := Array.replicate 124 none
  statics := none }

def pool1 : Array CpInfo := pool [(2, .class_ 4), (1, u "java/lang/Object"), (0, u "<init>"), (0, u "()V"), (0, .integer 2147483647), (0, .long 18446744073709551615), (1, .integer 65535), (0, .long 127), (1, .class_ 14), (0, u "java/lang/String"), (0, .methodref 13 16), (0, .nameAndType 5 17), (0, u "([C)V"), (0, .methodref 19 20), (0, .class_ 21), (0, .nameAndType 22 23), (0, u "com/example/ringward/ringward/Utf8"), (0, u "littleEndian"), (0, u "(Ljava/lang/String;[BII)J"), (0, .long 9187201950435737471), (1, .class_ 27), (0, u "com/example/ringward/ringward/Utf8LittleEndianPinLaw"), (2, u "law"), (0, u "(JIIIII)Z")] 7

def k1m0 : Method := { name := "<init>", desc := "()V", sig := { parameters := [], returnType := none }, accessFlags := 1, code := none }
def k1c1 : Code := { maxStack := 6, maxLocals := 25, code := code, exceptionTable := #[], attributes := #[] }
def k1m1 : Method := { name := "law", desc := "(JIIIII)Z", sig := { parameters := [.long, .int, .int, .int, .int, .int], returnType := some .boolean }, accessFlags := 9, code := some k1c1 }
/-- com/example/ringward/ringward/Utf8LittleEndianPinLaw -/
def k1 : Class := { plain "com/example/ringward/ringward/Utf8LittleEndianPinLaw" (some 0) with
  accessFlags := 49
  interfaces := #[]
  cf := some (fileOf pool1 26 #[] #[{ accessFlags := 1, nameIndex := 5, descriptorIndex := 6, attributes := #[] }, { accessFlags := 9, nameIndex := 30, descriptorIndex := 31, attributes := #[] }] 49 2 #[] #[])
  fields := #[]
  methods := #[k1m0, k1m1]
  instanceTypes := #[]
  staticTypes := #[]
  resolved := Array.replicate 39 none
  statics := none }

def pool2 : Array CpInfo := pool [(1, .class_ 2), (0, u "java/io/Serializable"), (0, .class_ 4), (0, u "java/lang/Object")] 2

/-- java/io/Serializable -/
def k2 : Class := { plain "java/io/Serializable" (some 0) with
  accessFlags := 1537
  interfaces := #[]
  cf := some (fileOf pool2 1 #[] #[] 1537 3 #[] #[])
  fields := #[]
  methods := #[]
  instanceTypes := #[]
  staticTypes := #[]
  resolved := Array.replicate 7 none
  statics := none }

def pool3 : Array CpInfo := pool [(1, .class_ 2), (0, u "java/lang/Comparable"), (0, .class_ 4), (0, u "java/lang/Object")] 7

/-- java/lang/Comparable -/
def k3 : Class := { plain "java/lang/Comparable" (some 0) with
  accessFlags := 1537
  interfaces := #[]
  cf := some (fileOf pool3 1 #[] #[] 1537 3 #[] #[])
  fields := #[]
  methods := #[]
  instanceTypes := #[]
  staticTypes := #[]
  resolved := Array.replicate 12 none
  statics := none }

def pool4 : Array CpInfo := pool [(2, .class_ 4), (1, u "java/lang/CharSequence"), (42, .class_ 48), (0, u "java/lang/CharSequence$1CodePointIterator"), (10, .class_ 60), (0, u "java/lang/CharSequence$1CharIterator"), (5, .class_ 67), (0, u "java/lang/Object")] 63

/-- java/lang/CharSequence -/
def k4 : Class := { plain "java/lang/CharSequence" (some 0) with
  accessFlags := 1537
  interfaces := #[]
  cf := some (fileOf pool4 2 #[.nestMembers #[47, 59]] #[] 1537 66 #[] #[])
  fields := #[]
  methods := #[]
  instanceTypes := #[]
  staticTypes := #[]
  resolved := Array.replicate 131 none
  statics := none }

def pool5 : Array CpInfo := pool [(1, .class_ 2), (0, u "java/lang/constant/Constable"), (0, .class_ 4), (0, u "java/lang/Object")] 6

/-- java/lang/constant/Constable -/
def k5 : Class := { plain "java/lang/constant/Constable" (some 0) with
  accessFlags := 1537
  interfaces := #[]
  cf := some (fileOf pool5 1 #[] #[] 1537 3 #[] #[])
  fields := #[]
  methods := #[]
  instanceTypes := #[]
  staticTypes := #[]
  resolved := Array.replicate 11 none
  statics := none }

def pool6 : Array CpInfo := pool [(1, .class_ 2), (0, u "java/lang/constant/ConstantDesc"), (0, .class_ 4), (0, u "java/lang/Object")] 32

/-- java/lang/constant/ConstantDesc -/
def k6 : Class := { plain "java/lang/constant/ConstantDesc" (some 0) with
  accessFlags := 1537
  interfaces := #[]
  cf := some (fileOf pool6 1 #[] #[] 1537 3 #[] #[])
  fields := #[]
  methods := #[]
  instanceTypes := #[]
  staticTypes := #[]
  resolved := Array.replicate 37 none
  statics := none }

def pool7 : Array CpInfo := pool [(1, .methodref 2 3), (0, .class_ 4), (0, .nameAndType 5 6), (0, u "java/lang/Object"), (0, u "<init>"), (0, u "()V"), (2, .fieldref 10 11), (0, .class_ 12), (0, .nameAndType 13 14), (0, u "java/lang/String"), (0, u "value"), (0, u "[B"), (0, .fieldref 10 16), (0, .nameAndType 17 18), (0, u "coder"), (0, u "B"), (2, u "hash"), (0, u "I"), (2, u "hashIsZero"), (0, u "Z"), (0, .methodref 10 28), (0, .nameAndType 5 29), (0, u "([CIILjava/lang/Void;)V"), (8, .fieldref 10 39), (0, .nameAndType 40 26), (0, u "COMPACT_STRINGS"), (1, .class_ 44), (1, u "java/lang/StringUTF16"), (0, u "compress"), (1, .methodref 42 48), (0, .nameAndType 49 50), (0, u "coderFromArrayLen"), (0, u "([BI)B"), (56, .class_ 109), (1, u "java/lang/StringLatin1"), (32, u "()Z"), (34, .methodref 42 178), (0, .nameAndType 45 179), (0, u "([CII)[B"), (183, u "([BI)C"), (27, u "(II)V"), (35, u "(I)C"), (64, .methodref 10 493), (0, .nameAndType 494 142), (0, u "isLatin1"), (0, .methodref 107 496), (0, .nameAndType 497 363), (0, u "charAt"), (0, .methodref 42 496), (2, u "checkIndex"), (73, .class_ 576), (0, u "java/lang/CharSequence"), (22, u "CASE_INSENSITIVE_ORDER"), (0, u "Ljava/util/Comparator;"), (409, u "([C)V"), (42, .fieldref 1054 1055), (0, .class_ 1056), (0, .nameAndType 1057 1058), (0, u "jdk/internal/util/Preconditions"), (0, u "SIOOBE_FORMATTER"), (0, u "Ljava/util/function/BiFunction;"), (0, .methodref 1054 1060), (0, .nameAndType 501 1061), (0, u "(IILjava/util/function/BiFunction;)I"), (39, u "serialPersistentFields"), (0, u "[Ljava/io/ObjectStreamField;"), (0, .class_ 1104), (0, u "java/lang/String$CaseInsensitiveComparator"), (1, .class_ 1107), (0, u "java/io/Serializable"), (0, .class_ 1109), (0, u "java/lang/Comparable"), (0, .class_ 1111), (0, u "java/lang/constant/Constable"), (0, .class_ 1113), (0, u "java/lang/constant/ConstantDesc"), (2, u "serialVersionUID"), (0, u "J"), (3, u "REPL"), (0, u "C"), (2, u "LATIN1"), (1, u "UTF16")] 323

def k7m0 : Method := { name := "<init>", desc := "()V", sig := { parameters := [], returnType := none }, accessFlags := 1, code := none }
def k7c1 : Code := { maxStack := 5, maxLocals := 2, code := jdk_42_method_3_code, exceptionTable := #[], attributes := #[] }
def k7m1 : Method := { name := "<init>", desc := "([C)V", sig := { parameters := [(.array .char)], returnType := none }, accessFlags := 1, code := some k7c1 }
def k7c2 : Code := { maxStack := 2, maxLocals := 2, code := jdk_42_method_56_code, exceptionTable := #[], attributes := #[] }
def k7m2 : Method := { name := "charAt", desc := "(I)C", sig := { parameters := [.int], returnType := some .char }, accessFlags := 1, code := some k7c2 }
def k7c3 : Code := { maxStack := 4, maxLocals := 6, code := jdk_42_method_149_code, exceptionTable := #[], attributes := #[] }
def k7m3 : Method := { name := "<init>", desc := "([CIILjava/lang/Void;)V", sig := { parameters := [(.array .char), .int, .int, (.object "java/lang/Void")], returnType := none }, accessFlags := 2, code := some k7c3 }
def k7c4 : Code := { maxStack := 1, maxLocals := 1, code := jdk_42_method_154_code, exceptionTable := #[], attributes := #[] }
def k7m4 : Method := { name := "isLatin1", desc := "()Z", sig := { parameters := [], returnType := some .boolean }, accessFlags := 0, code := some k7c4 }
def k7c5 : Code := { maxStack := 3, maxLocals := 2, code := jdk_42_method_155_code, exceptionTable := #[], attributes := #[] }
def k7m5 : Method := { name := "checkIndex", desc := "(II)V", sig := { parameters := [.int, .int], returnType := none }, accessFlags := 8, code := some k7c5 }
/-- java/lang/String -/
def k7 : Class := { plain "java/lang/String" (some 0) with
  accessFlags := 49
  interfaces := #[2, 3, 4, 5, 6]
  cf := some (fileOf pool7 10 #[.nestMembers #[1103]] #[{ accessFlags := 1, nameIndex := 5, descriptorIndex := 6, attributes := #[] }, { accessFlags := 1, nameIndex := 5, descriptorIndex := 1010, attributes := #[] }, { accessFlags := 1, nameIndex := 497, descriptorIndex := 427, attributes := #[] }, { accessFlags := 2, nameIndex := 5, descriptorIndex := 29, attributes := #[] }, { accessFlags := 0, nameIndex := 494, descriptorIndex := 142, attributes := #[] }, { accessFlags := 8, nameIndex := 501, descriptorIndex := 391, attributes := #[] }] 49 2 #[1106, 1108, 575, 1110, 1112] #[{ accessFlags := 18, nameIndex := 13, descriptorIndex := 14, attributes := #[] }, { accessFlags := 18, nameIndex := 17, descriptorIndex := 18, attributes := #[] }, { accessFlags := 2, nameIndex := 21, descriptorIndex := 22, attributes := #[] }, { accessFlags := 2, nameIndex := 25, descriptorIndex := 26, attributes := #[] }, { accessFlags := 26, nameIndex := 1116, descriptorIndex := 1117, attributes := #[] }, { accessFlags := 24, nameIndex := 40, descriptorIndex := 26, attributes := #[] }, { accessFlags := 26, nameIndex := 1101, descriptorIndex := 1102, attributes := #[] }, { accessFlags := 26, nameIndex := 1121, descriptorIndex := 1122, attributes := #[] }, { accessFlags := 25, nameIndex := 599, descriptorIndex := 600, attributes := #[] }, { accessFlags := 24, nameIndex := 1125, descriptorIndex := 18, attributes := #[] }, { accessFlags := 24, nameIndex := 1127, descriptorIndex := 18, attributes := #[] }])
  fields := #[{ name := "value", type := (.array .byte), accessFlags := 18, slot := 0, constantValue := 0 }, { name := "coder", type := .byte, accessFlags := 18, slot := 1, constantValue := 0 }, { name := "hash", type := .int, accessFlags := 2, slot := 2, constantValue := 0 }, { name := "hashIsZero", type := .boolean, accessFlags := 2, slot := 3, constantValue := 0 }, { name := "serialVersionUID", type := .long, accessFlags := 26, slot := 0, constantValue := 0 }, { name := "COMPACT_STRINGS", type := .boolean, accessFlags := 24, slot := 1, constantValue := 0 }, { name := "serialPersistentFields", type := (.array (.object "java/io/ObjectStreamField")), accessFlags := 26, slot := 2, constantValue := 0 }, { name := "REPL", type := .char, accessFlags := 26, slot := 3, constantValue := 0 }, { name := "CASE_INSENSITIVE_ORDER", type := (.object "java/util/Comparator"), accessFlags := 25, slot := 4, constantValue := 0 }, { name := "LATIN1", type := .byte, accessFlags := 24, slot := 5, constantValue := 0 }, { name := "UTF16", type := .byte, accessFlags := 24, slot := 6, constantValue := 0 }]
  methods := #[k7m0, k7m1, k7m2, k7m3, k7m4, k7m5]
  instanceTypes := #[(.array .byte), .byte, .int, .boolean]
  staticTypes := #[.long, .boolean, (.array (.object "java/io/ObjectStreamField")), .char, (.object "java/util/Comparator"), .byte, .byte]
  resolved := Array.replicate 1451 none
  statics := some 0 }

def pool8 : Array CpInfo := pool [(3, .class_ 4), (0, u "java/lang/String"), (1, .class_ 8), (1, u "java/lang/Object"), (0, u "<init>"), (0, u "()V"), (0, .methodref 12 13), (0, .class_ 14), (0, .nameAndType 15 16), (0, u "java/lang/StringUTF16"), (0, u "newBytesLength"), (0, u "(I)I"), (3, .integer 1073741823), (23, .fieldref 12 45), (0, .nameAndType 46 47), (0, u "$assertionsDisabled"), (0, u "Z"), (0, .methodref 12 49), (0, .nameAndType 50 51), (0, u "length"), (0, u "([B)I"), (7, .fieldref 12 60), (0, .nameAndType 61 62), (0, u "HI_BYTE_SHIFT"), (0, u "I"), (0, .fieldref 12 64), (0, .nameAndType 65 62), (0, u "LO_BYTE_SHIFT"), (1, .methodref 12 68), (0, .nameAndType 69 70), (0, u "checkIndex"), (0, u "(I[B)V"), (0, .methodref 12 72), (0, .nameAndType 73 74), (0, u "getChar"), (0, u "([BI)C"), (32, .methodref 12 108), (0, .nameAndType 109 110), (0, u "newBytesFor"), (0, u "(I)[B"), (0, .methodref 12 112), (0, .nameAndType 113 114), (0, u "putChar"), (0, u "([BII)V"), (0, .methodref 12 116), (0, .nameAndType 117 118), (0, u "compress"), (0, u "([CI[BII)I"), (0, .methodref 12 120), (0, .nameAndType 121 122), (0, u "toBytes"), (0, u "([CII)[B"), (138, u "coderFromArrayLen"), (0, u "([BI)B"), (106, .class_ 371), (1, u "java/lang/StringUTF16$LinesSpliterator"), (20, u "charAt"), (21, .methodref 3 415), (0, .nameAndType 69 416), (0, u "(II)V"), (13, u "MAX_LENGTH"), (196, .class_ 628), (0, u "java/lang/StringUTF16$CodePointsSpliterator"), (0, .class_ 630), (0, u "java/lang/StringUTF16$CharsSpliterator")] 4

def k8m0 : Method := { name := "<init>", desc := "()V", sig := { parameters := [], returnType := none }, accessFlags := 0, code := none }
def k8c1 : Code := { maxStack := 1, maxLocals := 1, code := jdk_52_method_2_code, exceptionTable := #[], attributes := #[] }
def k8m1 : Method := { name := "newBytesFor", desc := "(I)[B", sig := { parameters := [.int], returnType := some (.array .byte) }, accessFlags := 9, code := some k8c1 }
def k8c2 : Code := { maxStack := 4, maxLocals := 1, code := jdk_52_method_3_code, exceptionTable := #[], attributes := #[] }
def k8m2 : Method := { name := "newBytesLength", desc := "(I)I", sig := { parameters := [.int], returnType := some .int }, accessFlags := 9, code := some k8c2 }
def k8c3 : Code := { maxStack := 4, maxLocals := 3, code := jdk_52_method_4_code, exceptionTable := #[], attributes := #[] }
def k8m3 : Method := { name := "putChar", desc := "([BII)V", sig := { parameters := [(.array .byte), .int, .int], returnType := none }, accessFlags := 8, code := some k8c3 }
def k8c4 : Code := { maxStack := 3, maxLocals := 2, code := jdk_52_method_5_code, exceptionTable := #[], attributes := #[] }
def k8m4 : Method := { name := "getChar", desc := "([BI)C", sig := { parameters := [(.array .byte), .int], returnType := some .char }, accessFlags := 8, code := some k8c4 }
def k8c5 : Code := { maxStack := 2, maxLocals := 1, code := jdk_52_method_6_code, exceptionTable := #[], attributes := #[] }
def k8m5 : Method := { name := "length", desc := "([B)I", sig := { parameters := [(.array .byte)], returnType := some .int }, accessFlags := 9, code := some k8c5 }
def k8c6 : Code := { maxStack := 4, maxLocals := 5, code := jdk_52_method_14_code, exceptionTable := #[], attributes := #[] }
def k8m6 : Method := { name := "toBytes", desc := "([CII)[B", sig := { parameters := [(.array .char), .int, .int], returnType := some (.array .byte) }, accessFlags := 9, code := some k8c6 }
def k8c7 : Code := { maxStack := 2, maxLocals := 2, code := jdk_52_method_15_code, exceptionTable := #[], attributes := #[] }
def k8m7 : Method := { name := "coderFromArrayLen", desc := "([BI)B", sig := { parameters := [(.array .byte), .int], returnType := some .byte }, accessFlags := 8, code := some k8c7 }
def k8c8 : Code := { maxStack := 5, maxLocals := 6, code := jdk_52_method_16_code, exceptionTable := #[], attributes := #[] }
def k8m8 : Method := { name := "compress", desc := "([CII)[B", sig := { parameters := [(.array .char), .int, .int], returnType := some (.array .byte) }, accessFlags := 9, code := some k8c8 }
def k8c9 : Code := { maxStack := 3, maxLocals := 7, code := jdk_52_method_21_code, exceptionTable := #[], attributes := #[] }
def k8m9 : Method := { name := "compress", desc := "([CI[BII)I", sig := { parameters := [(.array .char), .int, (.array .byte), .int, .int], returnType := some .int }, accessFlags := 9, code := some k8c9 }
def k8c10 : Code := { maxStack := 2, maxLocals := 2, code := jdk_52_method_83_code, exceptionTable := #[], attributes := #[] }
def k8m10 : Method := { name := "charAt", desc := "([BI)C", sig := { parameters := [(.array .byte), .int], returnType := some .char }, accessFlags := 9, code := some k8c10 }
def k8c11 : Code := { maxStack := 2, maxLocals := 2, code := jdk_52_method_91_code, exceptionTable := #[], attributes := #[] }
def k8m11 : Method := { name := "checkIndex", desc := "(I[B)V", sig := { parameters := [.int, (.array .byte)], returnType := none }, accessFlags := 9, code := some k8c11 }
/-- java/lang/StringUTF16 -/
def k8 : Class := { plain "java/lang/StringUTF16" (some 0) with
  accessFlags := 48
  interfaces := #[]
  cf := some (fileOf pool8 12 #[.nestMembers #[627, 629, 369]] #[{ accessFlags := 0, nameIndex := 9, descriptorIndex := 10, attributes := #[] }, { accessFlags := 9, nameIndex := 109, descriptorIndex := 110, attributes := #[] }, { accessFlags := 9, nameIndex := 15, descriptorIndex := 16, attributes := #[] }, { accessFlags := 8, nameIndex := 113, descriptorIndex := 114, attributes := #[] }, { accessFlags := 8, nameIndex := 73, descriptorIndex := 74, attributes := #[] }, { accessFlags := 9, nameIndex := 50, descriptorIndex := 51, attributes := #[] }, { accessFlags := 9, nameIndex := 121, descriptorIndex := 122, attributes := #[] }, { accessFlags := 8, nameIndex := 261, descriptorIndex := 262, attributes := #[] }, { accessFlags := 9, nameIndex := 117, descriptorIndex := 122, attributes := #[] }, { accessFlags := 9, nameIndex := 117, descriptorIndex := 118, attributes := #[] }, { accessFlags := 9, nameIndex := 392, descriptorIndex := 74, attributes := #[] }, { accessFlags := 9, nameIndex := 69, descriptorIndex := 70, attributes := #[] }] 48 6 #[] #[{ accessFlags := 26, nameIndex := 61, descriptorIndex := 62, attributes := #[] }, { accessFlags := 26, nameIndex := 65, descriptorIndex := 62, attributes := #[] }, { accessFlags := 24, nameIndex := 430, descriptorIndex := 62, attributes := #[] }, { accessFlags := 4120, nameIndex := 46, descriptorIndex := 47, attributes := #[] }])
  fields := #[{ name := "HI_BYTE_SHIFT", type := .int, accessFlags := 26, slot := 0, constantValue := 0 }, { name := "LO_BYTE_SHIFT", type := .int, accessFlags := 26, slot := 1, constantValue := 0 }, { name := "MAX_LENGTH", type := .int, accessFlags := 24, slot := 2, constantValue := 0 }, { name := "$assertionsDisabled", type := .boolean, accessFlags := 4120, slot := 3, constantValue := 0 }]
  methods := #[k8m0, k8m1, k8m2, k8m3, k8m4, k8m5, k8m6, k8m7, k8m8, k8m9, k8m10, k8m11]
  instanceTypes := #[]
  staticTypes := #[.int, .int, .int, .boolean]
  resolved := Array.replicate 635 none
  statics := some 1 }

def pool9 : Array CpInfo := pool [(2, .class_ 4), (1, u "java/lang/Object"), (0, u "<init>"), (0, u "()V"), (1, .class_ 10), (1, u "java/lang/String"), (17, .long 255), (1, .methodref 8 31), (0, .nameAndType 32 33), (0, u "charAt"), (0, u "(I)C"), (0, .long 18446744073709551615), (13, .class_ 49), (0, u "com/example/ringward/ringward/Utf8"), (4, u "littleEndian"), (0, u "(Ljava/lang/String;[BII)J")] 19

def k9m0 : Method := { name := "<init>", desc := "()V", sig := { parameters := [], returnType := none }, accessFlags := 2, code := none }
def k9c1 : Code := { maxStack := 6, maxLocals := 9, code := prog_14_method_3_code, exceptionTable := #[], attributes := #[] }
def k9m1 : Method := { name := "littleEndian", desc := "(Ljava/lang/String;[BII)J", sig := { parameters := [(.object "java/lang/String"), (.array .byte), .int, .int], returnType := some .long }, accessFlags := 8, code := some k9c1 }
/-- com/example/ringward/ringward/Utf8 -/
def k9 : Class := { plain "com/example/ringward/ringward/Utf8" (some 0) with
  accessFlags := 48
  interfaces := #[]
  cf := some (fileOf pool9 48 #[] #[{ accessFlags := 2, nameIndex := 5, descriptorIndex := 6, attributes := #[] }, { accessFlags := 8, nameIndex := 54, descriptorIndex := 55, attributes := #[] }] 48 2 #[] #[])
  fields := #[]
  methods := #[k9m0, k9m1]
  instanceTypes := #[]
  staticTypes := #[]
  resolved := Array.replicate 75 none
  statics := none }

def pool10 : Array CpInfo := pool [(1, .class_ 2), (0, u "java/lang/String"), (1, .class_ 6), (1, u "java/lang/Object"), (0, u "<init>"), (0, u "()V"), (0, .methodref 1 10), (0, .nameAndType 11 12), (0, u "checkIndex"), (0, u "(II)V"), (1, .class_ 16), (1, u "java/lang/StringLatin1"), (36, u "([BI)C"), (67, u "$assertionsDisabled"), (0, u "Z"), (98, .class_ 223), (1, u "java/lang/StringLatin1$LinesSpliterator"), (28, u "charAt"), (137, .class_ 391), (0, u "java/lang/StringLatin1$CharsSpliterator")] 3

def k10m0 : Method := { name := "<init>", desc := "()V", sig := { parameters := [], returnType := none }, accessFlags := 0, code := none }
def k10c1 : Code := { maxStack := 2, maxLocals := 2, code := jdk_43_method_2_code, exceptionTable := #[], attributes := #[] }
def k10m1 : Method := { name := "charAt", desc := "([BI)C", sig := { parameters := [(.array .byte), .int], returnType := some .char }, accessFlags := 9, code := some k10c1 }
/-- java/lang/StringLatin1 -/
def k10 : Class := { plain "java/lang/StringLatin1" (some 0) with
  accessFlags := 48
  interfaces := #[]
  cf := some (fileOf pool10 14 #[.nestMembers #[390, 221]] #[{ accessFlags := 0, nameIndex := 7, descriptorIndex := 8, attributes := #[] }, { accessFlags := 9, nameIndex := 252, descriptorIndex := 53, attributes := #[] }] 48 4 #[] #[{ accessFlags := 4120, nameIndex := 121, descriptorIndex := 122, attributes := #[] }])
  fields := #[{ name := "$assertionsDisabled", type := .boolean, accessFlags := 4120, slot := 0, constantValue := 0 }]
  methods := #[k10m0, k10m1]
  instanceTypes := #[]
  staticTypes := #[.boolean]
  resolved := Array.replicate 395 none
  statics := none }

def pool11 : Array CpInfo := pool [(2, .class_ 4), (1, u "java/lang/Object"), (0, u "<init>"), (0, u "()V"), (17, .class_ 26), (1, u "jdk/internal/util/Preconditions"), (6, u "checkIndex"), (21, .class_ 56), (0, u "jdk/internal/util/Preconditions$4"), (57, .class_ 115), (0, u "jdk/internal/util/Preconditions$1"), (7, u "SIOOBE_FORMATTER"), (0, u "Ljava/util/function/BiFunction;"), (0, .class_ 126), (0, u "jdk/internal/util/Preconditions$2"), (3, u "AIOOBE_FORMATTER"), (0, .class_ 132), (0, u "jdk/internal/util/Preconditions$3"), (3, u "IOOBE_FORMATTER"), (41, u "(IILjava/util/function/BiFunction;)I")] 15

def k11m0 : Method := { name := "<init>", desc := "()V", sig := { parameters := [], returnType := none }, accessFlags := 1, code := none }
def k11c1 : Code := { maxStack := 3, maxLocals := 3, code := jdk_41_method_11_code, exceptionTable := #[], attributes := #[] }
def k11m1 : Method := { name := "checkIndex", desc := "(IILjava/util/function/BiFunction;)I", sig := { parameters := [.int, .int, (.object "java/util/function/BiFunction")], returnType := some .int }, accessFlags := 9, code := some k11c1 }
/-- jdk/internal/util/Preconditions -/
def k11 : Class := { plain "jdk/internal/util/Preconditions" (some 0) with
  accessFlags := 33
  interfaces := #[]
  cf := some (fileOf pool11 24 #[.nestMembers #[55, 131, 125, 114]] #[{ accessFlags := 1, nameIndex := 5, descriptorIndex := 6, attributes := #[] }, { accessFlags := 9, nameIndex := 33, descriptorIndex := 178, attributes := #[] }] 33 2 #[] #[{ accessFlags := 25, nameIndex := 123, descriptorIndex := 124, attributes := #[] }, { accessFlags := 25, nameIndex := 130, descriptorIndex := 124, attributes := #[] }, { accessFlags := 25, nameIndex := 136, descriptorIndex := 124, attributes := #[] }])
  fields := #[{ name := "SIOOBE_FORMATTER", type := (.object "java/util/function/BiFunction"), accessFlags := 25, slot := 0, constantValue := 0 }, { name := "AIOOBE_FORMATTER", type := (.object "java/util/function/BiFunction"), accessFlags := 25, slot := 1, constantValue := 0 }, { name := "IOOBE_FORMATTER", type := (.object "java/util/function/BiFunction"), accessFlags := 25, slot := 2, constantValue := 0 }]
  methods := #[k11m0, k11m1]
  instanceTypes := #[]
  staticTypes := #[(.object "java/util/function/BiFunction"), (.object "java/util/function/BiFunction"), (.object "java/util/function/BiFunction")]
  resolved := Array.replicate 194 none
  statics := some 2 }

def pool12 : Array CpInfo := pool [(9, u "<init>"), (6, .class_ 18), (1, u "java/lang/Object"), (0, u "()V"), (1, .class_ 23), (1, u "jdk/internal/util/ArraysSupport"), (0, u "LOG2_ARRAY_LONG_INDEX_SCALE"), (0, u "I"), (2, u "U"), (0, u "Ljdk/internal/misc/Unsafe;"), (8, u "BIG_ENDIAN"), (0, u "Z"), (8, u "LOG2_BYTE_BIT_SIZE"), (4, u "LOG2_ARRAY_INT_INDEX_SCALE"), (54, u "JLA"), (0, u "Ljdk/internal/access/JavaLangAccess;"), (11, u "LOG2_ARRAY_BOOLEAN_INDEX_SCALE"), (9, u "LOG2_ARRAY_BYTE_INDEX_SCALE"), (5, u "LOG2_ARRAY_CHAR_INDEX_SCALE"), (5, u "LOG2_ARRAY_SHORT_INDEX_SCALE"), (18, u "LOG2_ARRAY_FLOAT_INDEX_SCALE"), (24, u "LOG2_ARRAY_DOUBLE_INDEX_SCALE"), (89, u "T_BOOLEAN"), (2, u "T_CHAR"), (1, u "T_FLOAT"), (1, u "T_DOUBLE"), (1, u "T_BYTE"), (1, u "T_SHORT"), (1, u "T_INT"), (1, u "T_LONG"), (1, u "SOFT_MAX_ARRAY_LENGTH")] 83

def k12m0 : Method := { name := "<init>", desc := "()V", sig := { parameters := [], returnType := none }, accessFlags := 2, code := none }
/-- jdk/internal/util/ArraysSupport -/
def k12 : Class := { plain "jdk/internal/util/ArraysSupport" (some 0) with
  accessFlags := 33
  interfaces := #[]
  cf := some (fileOf pool12 21 #[] #[{ accessFlags := 2, nameIndex := 9, descriptorIndex := 19, attributes := #[] }] 33 16 #[] #[{ accessFlags := 24, nameIndex := 28, descriptorIndex := 29, attributes := #[] }, { accessFlags := 26, nameIndex := 38, descriptorIndex := 39, attributes := #[] }, { accessFlags := 25, nameIndex := 121, descriptorIndex := 25, attributes := #[] }, { accessFlags := 25, nameIndex := 131, descriptorIndex := 25, attributes := #[] }, { accessFlags := 25, nameIndex := 137, descriptorIndex := 25, attributes := #[] }, { accessFlags := 25, nameIndex := 143, descriptorIndex := 25, attributes := #[] }, { accessFlags := 25, nameIndex := 53, descriptorIndex := 25, attributes := #[] }, { accessFlags := 25, nameIndex := 24, descriptorIndex := 25, attributes := #[] }, { accessFlags := 25, nameIndex := 162, descriptorIndex := 25, attributes := #[] }, { accessFlags := 25, nameIndex := 187, descriptorIndex := 25, attributes := #[] }, { accessFlags := 26, nameIndex := 48, descriptorIndex := 25, attributes := #[] }, { accessFlags := 25, nameIndex := 277, descriptorIndex := 25, attributes := #[] }, { accessFlags := 25, nameIndex := 280, descriptorIndex := 25, attributes := #[] }, { accessFlags := 25, nameIndex := 282, descriptorIndex := 25, attributes := #[] }, { accessFlags := 25, nameIndex := 284, descriptorIndex := 25, attributes := #[] }, { accessFlags := 25, nameIndex := 286, descriptorIndex := 25, attributes := #[] }, { accessFlags := 25, nameIndex := 288, descriptorIndex := 25, attributes := #[] }, { accessFlags := 25, nameIndex := 290, descriptorIndex := 25, attributes := #[] }, { accessFlags := 25, nameIndex := 292, descriptorIndex := 25, attributes := #[] }, { accessFlags := 26, nameIndex := 108, descriptorIndex := 109, attributes := #[] }, { accessFlags := 25, nameIndex := 294, descriptorIndex := 25, attributes := #[] }])
  fields := #[{ name := "U", type := (.object "jdk/internal/misc/Unsafe"), accessFlags := 24, slot := 0, constantValue := 0 }, { name := "BIG_ENDIAN", type := .boolean, accessFlags := 26, slot := 1, constantValue := 0 }, { name := "LOG2_ARRAY_BOOLEAN_INDEX_SCALE", type := .int, accessFlags := 25, slot := 2, constantValue := 0 }, { name := "LOG2_ARRAY_BYTE_INDEX_SCALE", type := .int, accessFlags := 25, slot := 3, constantValue := 0 }, { name := "LOG2_ARRAY_CHAR_INDEX_SCALE", type := .int, accessFlags := 25, slot := 4, constantValue := 0 }, { name := "LOG2_ARRAY_SHORT_INDEX_SCALE", type := .int, accessFlags := 25, slot := 5, constantValue := 0 }, { name := "LOG2_ARRAY_INT_INDEX_SCALE", type := .int, accessFlags := 25, slot := 6, constantValue := 0 }, { name := "LOG2_ARRAY_LONG_INDEX_SCALE", type := .int, accessFlags := 25, slot := 7, constantValue := 0 }, { name := "LOG2_ARRAY_FLOAT_INDEX_SCALE", type := .int, accessFlags := 25, slot := 8, constantValue := 0 }, { name := "LOG2_ARRAY_DOUBLE_INDEX_SCALE", type := .int, accessFlags := 25, slot := 9, constantValue := 0 }, { name := "LOG2_BYTE_BIT_SIZE", type := .int, accessFlags := 26, slot := 10, constantValue := 0 }, { name := "T_BOOLEAN", type := .int, accessFlags := 25, slot := 11, constantValue := 0 }, { name := "T_CHAR", type := .int, accessFlags := 25, slot := 12, constantValue := 0 }, { name := "T_FLOAT", type := .int, accessFlags := 25, slot := 13, constantValue := 0 }, { name := "T_DOUBLE", type := .int, accessFlags := 25, slot := 14, constantValue := 0 }, { name := "T_BYTE", type := .int, accessFlags := 25, slot := 15, constantValue := 0 }, { name := "T_SHORT", type := .int, accessFlags := 25, slot := 16, constantValue := 0 }, { name := "T_INT", type := .int, accessFlags := 25, slot := 17, constantValue := 0 }, { name := "T_LONG", type := .int, accessFlags := 25, slot := 18, constantValue := 0 }, { name := "JLA", type := (.object "jdk/internal/access/JavaLangAccess"), accessFlags := 26, slot := 19, constantValue := 0 }, { name := "SOFT_MAX_ARRAY_LENGTH", type := .int, accessFlags := 25, slot := 20, constantValue := 0 }]
  methods := #[k12m0]
  instanceTypes := #[]
  staticTypes := #[(.object "jdk/internal/misc/Unsafe"), .boolean, .int, .int, .int, .int, .int, .int, .int, .int, .int, .int, .int, .int, .int, .int, .int, .int, .int, (.object "jdk/internal/access/JavaLangAccess"), .int]
  resolved := Array.replicate 378 none
  statics := none }

def pool13 : Array CpInfo := pool [(1, u "java/lang/Cloneable"), (0, .class_ 1), (0, u "java/lang/Object"), (0, .class_ 3)] 3

/-- java/lang/Cloneable -/
def k13 : Class := { plain "java/lang/Cloneable" (some 0) with
  accessFlags := 1537
  interfaces := #[]
  cf := some (fileOf pool13 2 #[] #[] 1537 4 #[] #[])
  fields := #[]
  methods := #[]
  instanceTypes := #[]
  staticTypes := #[]
  resolved := Array.replicate 8 none
  statics := none }

/-- the primitive byte -/
def k14 : Class := { plain "byte" none with kind := .primitive 'B', accessFlags := 0x411 }
/-- [B -/
def k15 : Class := { plain "[B" (some 0) with kind := .array 14 .byte, interfaces := #[13, 2], accessFlags := 1041 }

/-- the primitive char -/
def k16 : Class := { plain "char" none with kind := .primitive 'C', accessFlags := 0x411 }
/-- [C -/
def k17 : Class := { plain "[C" (some 0) with kind := .array 16 .char, interfaces := #[13, 2], accessFlags := 1041 }

/-- the primitive int -/
def k18 : Class := { plain "int" none with kind := .primitive 'I', accessFlags := 0x411 }
/-- [I -/
def k19 : Class := { plain "[I" (some 0) with kind := .array 18 .int, interfaces := #[13, 2], accessFlags := 1041 }

def heap : Heap := #[{ cls := 7, slots := #[.long 0, .int 1, .null, .int 0, .null, .int 0, .int 0], vm := .statics 7 },
  { cls := 8, slots := #[.int 0, .int 8, .int 0, .int 1], vm := .statics 8 },
  { cls := 11, slots := #[.null, .null, .null], vm := .statics 11 }]
def classes : Array Class := #[k0, k1, k2, k3, k4, k5, k6, k7, k8, k9, k10, k11, k12, k13, k14, k15, k16, k17, k18, k19]
def interned : List (Array UInt16 × Addr) := []
def slotsUsed : Nat := 14
def theMethod : MethodId := ⟨1, 1⟩
def args0 : Array Value := #[.long 5, .int 3, .int 4, .int 1, .int 3, .int 2]
def aboutOver (below : List Frame) : State where
  vm := { classes := classes, interned := interned.toArray }
  heap := heap
  slotsUsed := slotsUsed
  threads := #[{ frames := .invoking theMethod args0 :: below }]
def below0 : List Frame := [.native { method := ⟨0, 0⟩, args := #[] }]
def about1 : State := aboutOver below0
def p0 : Program := .bare "" "" ""
def e0 : Env := launch0.env 0 0 0
theorem w_frames : about1.frames = Frame.invoking theMethod args0 :: below0 := rfl
set_option maxRecDepth 65536 in
theorem w_args : argsFit about1.vm theMethod args0 = true := by decide +kernel
set_option maxRecDepth 65536 in
theorem w_heap : heapFits about1 = true := by decide +kernel
set_option maxRecDepth 65536 in
theorem w_runnable : about1.curStatus? = some .runnable := by decide +kernel
set_option maxRecDepth 65536 in
theorem w_alone : about1.alone = true := by decide +kernel
set_option maxRecDepth 65536 in
theorem w_named : about1.methodNamed? x = some theMethod := by decide +kernel
set_option maxRecDepth 65536 in
theorem w_hears : about1.hears theMethod below0 = true := by decide +kernel
set_option maxRecDepth 65536 in
theorem w_ripe : about1.ripe theMethod args0 below0 = true := by decide +kernel
theorem w_running : about1.status = .running := rfl
set_option maxRecDepth 65536 in
theorem w_room : about1.hasRoom e0.platform room_1 = true :=
  launch0.hasRoom_least _ room_1 (by decide +kernel) (by decide +kernel) (by decide +kernel) (by decide +kernel) (by decide +kernel) (by decide +kernel)
theorem allAtoms_all (ts : List Jvm.Cond) (a : Array Jvm.Value) (st : Jvm.State) : (allAtoms ts).before a st = ts.all (fun c => c.before a st) := by
  induction ts with
  | nil => rfl
  | cons c t ih =>
    show (Jvm.Cond.and c (allAtoms t)).before a st = _
    rw [Jvm.Cond.before_and, ih, List.all_cons]
def words1 : List Jvm.Cond := Jvm.Cond.code x code maxLocals ret :: tables_1
/-- a 'code' word, met by the world's own term for the bytes: nothing is compared byte by byte -/
theorem code_word {y : MethodName} {bytes : ByteArray} {mx : Nat} {rt : Option FieldType} {a : Array Value} {s : State} {m : MethodId} {meth : Method} {c : Code} (h1 : s.methodNamed? y = some m) (h2 : s.vm.method? m = some meth) (h3 : meth.code = some c) (h4 : c.code = bytes)
    (h5 : (c.maxLocals == mx && c.exceptionTable.isEmpty && decide (c.maxStack ≤ mostOperands) && decide (meth.sig.returnType = rt) && !meth.locks && decide (parseMethodDescriptor y.desc = some meth.sig)) = true) : (Jvm.Cond.code y bytes mx rt).before a s = true := by
  simp only [Bool.and_eq_true, beq_iff_eq, Bool.not_eq_true', decide_eq_true_eq] at h5
  obtain ⟨⟨⟨⟨⟨g1, g2⟩, g3⟩, g4⟩, g5⟩, g6⟩ := h5
  simp [Cond.before, Cond.holds, Cond.value, h1, h2, h3, h4, g1, g2, g3, g4, g5, g6]
def isCode : Jvm.Cond → Bool
  | .code _ _ _ _ => true
  | _ => false
theorem all_split {L : List Jvm.Cond} {P : Jvm.Cond → Bool} (h1 : L.all (fun c => isCode c || P c) = true) (h2 : ∀ c ∈ L.filter isCode, P c = true) : L.all P = true := by
  refine List.all_eq_true.mpr fun c hc => ?_
  have h := List.all_eq_true.mp h1 c hc
  rcases Bool.eq_false_or_eq_true (isCode c) with hi | hi
  · exact h2 c (List.mem_filter.mpr ⟨hc, hi⟩)
  · simpa [hi] using h
set_option maxRecDepth 65536 in
theorem w_c0 : (Jvm.Cond.code x code maxLocals ret).before args0 about1 = true := code_word (m := ⟨1, 1⟩) (meth := k1m1) (c := k1c1) (by decide +kernel) rfl rfl rfl (by decide +kernel)
set_option maxRecDepth 65536 in
theorem w_c1 : (Jvm.Cond.code ({ cls := "java/lang/String", name := "<init>", desc := "([C)V" } : Jvm.MethodName) jdk_42_method_3_code (2 : Nat) (Option.none : Option Jvm.ClassFile.FieldType)).before args0 about1 = true := code_word (m := ⟨7, 1⟩) (meth := k7m1) (c := k7c1) (by decide +kernel) rfl rfl rfl (by decide +kernel)
set_option maxRecDepth 65536 in
theorem w_c2 : (Jvm.Cond.code ({ cls := "java/lang/String", name := "<init>", desc := "([CIILjava/lang/Void;)V" } : Jvm.MethodName) jdk_42_method_149_code (6 : Nat) (Option.none : Option Jvm.ClassFile.FieldType)).before args0 about1 = true := code_word (m := ⟨7, 3⟩) (meth := k7m3) (c := k7c3) (by decide +kernel) rfl rfl rfl (by decide +kernel)
set_option maxRecDepth 65536 in
theorem w_c3 : (Jvm.Cond.code ({ cls := "java/lang/Object", name := "<init>", desc := "()V" } : Jvm.MethodName) object_method_1_code (1 : Nat) (Option.none : Option Jvm.ClassFile.FieldType)).before args0 about1 = true := code_word (m := ⟨0, 0⟩) (meth := k0m0) (c := k0c0) (by decide +kernel) rfl rfl rfl (by decide +kernel)
set_option maxRecDepth 65536 in
theorem w_c4 : (Jvm.Cond.code ({ cls := "java/lang/StringUTF16", name := "compress", desc := "([CII)[B" } : Jvm.MethodName) jdk_52_method_16_code (6 : Nat) (Option.some (Jvm.ClassFile.FieldType.array Jvm.ClassFile.FieldType.byte))).before args0 about1 = true := code_word (m := ⟨8, 8⟩) (meth := k8m8) (c := k8c8) (by decide +kernel) rfl rfl rfl (by decide +kernel)
set_option maxRecDepth 65536 in
theorem w_c5 : (Jvm.Cond.code ({ cls := "java/lang/StringUTF16", name := "compress", desc := "([CI[BII)I" } : Jvm.MethodName) jdk_52_method_21_code (7 : Nat) (Option.some Jvm.ClassFile.FieldType.int)).before args0 about1 = true := code_word (m := ⟨8, 9⟩) (meth := k8m9) (c := k8c9) (by decide +kernel) rfl rfl rfl (by decide +kernel)
set_option maxRecDepth 65536 in
theorem w_c6 : (Jvm.Cond.code ({ cls := "java/lang/StringUTF16", name := "coderFromArrayLen", desc := "([BI)B" } : Jvm.MethodName) jdk_52_method_15_code (2 : Nat) (Option.some Jvm.ClassFile.FieldType.byte)).before args0 about1 = true := code_word (m := ⟨8, 7⟩) (meth := k8m7) (c := k8c7) (by decide +kernel) rfl rfl rfl (by decide +kernel)
set_option maxRecDepth 65536 in
theorem w_c7 : (Jvm.Cond.code ({ cls := "com/example/ringward/ringward/Utf8", name := "littleEndian", desc := "(Ljava/lang/String;[BII)J" } : Jvm.MethodName) prog_14_method_3_code (9 : Nat) (Option.some Jvm.ClassFile.FieldType.long)).before args0 about1 = true := code_word (m := ⟨9, 1⟩) (meth := k9m1) (c := k9c1) (by decide +kernel) rfl rfl rfl (by decide +kernel)
set_option maxRecDepth 65536 in
theorem w_c8 : (Jvm.Cond.code ({ cls := "java/lang/String", name := "charAt", desc := "(I)C" } : Jvm.MethodName) jdk_42_method_56_code (2 : Nat) (Option.some Jvm.ClassFile.FieldType.char)).before args0 about1 = true := code_word (m := ⟨7, 2⟩) (meth := k7m2) (c := k7c2) (by decide +kernel) rfl rfl rfl (by decide +kernel)
set_option maxRecDepth 65536 in
theorem w_c9 : (Jvm.Cond.code ({ cls := "java/lang/String", name := "isLatin1", desc := "()Z" } : Jvm.MethodName) jdk_42_method_154_code (1 : Nat) (Option.some Jvm.ClassFile.FieldType.boolean)).before args0 about1 = true := code_word (m := ⟨7, 4⟩) (meth := k7m4) (c := k7c4) (by decide +kernel) rfl rfl rfl (by decide +kernel)
set_option maxRecDepth 65536 in
theorem w_c10 : (Jvm.Cond.code ({ cls := "java/lang/StringLatin1", name := "charAt", desc := "([BI)C" } : Jvm.MethodName) jdk_43_method_2_code (2 : Nat) (Option.some Jvm.ClassFile.FieldType.char)).before args0 about1 = true := code_word (m := ⟨10, 1⟩) (meth := k10m1) (c := k10c1) (by decide +kernel) rfl rfl rfl (by decide +kernel)
set_option maxRecDepth 65536 in
theorem w_c11 : (Jvm.Cond.code ({ cls := "java/lang/String", name := "checkIndex", desc := "(II)V" } : Jvm.MethodName) jdk_42_method_155_code (2 : Nat) (Option.none : Option Jvm.ClassFile.FieldType)).before args0 about1 = true := code_word (m := ⟨7, 5⟩) (meth := k7m5) (c := k7c5) (by decide +kernel) rfl rfl rfl (by decide +kernel)
set_option maxRecDepth 65536 in
theorem w_c12 : (Jvm.Cond.code ({ cls := "jdk/internal/util/Preconditions", name := "checkIndex", desc := "(IILjava/util/function/BiFunction;)I" } : Jvm.MethodName) jdk_41_method_11_code (3 : Nat) (Option.some Jvm.ClassFile.FieldType.int)).before args0 about1 = true := code_word (m := ⟨11, 1⟩) (meth := k11m1) (c := k11c1) (by decide +kernel) rfl rfl rfl (by decide +kernel)
set_option maxRecDepth 65536 in
theorem w_c13 : (Jvm.Cond.code ({ cls := "java/lang/StringUTF16", name := "toBytes", desc := "([CII)[B" } : Jvm.MethodName) jdk_52_method_14_code (5 : Nat) (Option.some (Jvm.ClassFile.FieldType.array Jvm.ClassFile.FieldType.byte))).before args0 about1 = true := code_word (m := ⟨8, 6⟩) (meth := k8m6) (c := k8c6) (by decide +kernel) rfl rfl rfl (by decide +kernel)
set_option maxRecDepth 65536 in
theorem w_c14 : (Jvm.Cond.code ({ cls := "java/lang/StringUTF16", name := "newBytesFor", desc := "(I)[B" } : Jvm.MethodName) jdk_52_method_2_code (1 : Nat) (Option.some (Jvm.ClassFile.FieldType.array Jvm.ClassFile.FieldType.byte))).before args0 about1 = true := code_word (m := ⟨8, 1⟩) (meth := k8m1) (c := k8c1) (by decide +kernel) rfl rfl rfl (by decide +kernel)
set_option maxRecDepth 65536 in
theorem w_c15 : (Jvm.Cond.code ({ cls := "java/lang/StringUTF16", name := "newBytesLength", desc := "(I)I" } : Jvm.MethodName) jdk_52_method_3_code (1 : Nat) (Option.some Jvm.ClassFile.FieldType.int)).before args0 about1 = true := code_word (m := ⟨8, 2⟩) (meth := k8m2) (c := k8c2) (by decide +kernel) rfl rfl rfl (by decide +kernel)
set_option maxRecDepth 65536 in
theorem w_c16 : (Jvm.Cond.code ({ cls := "java/lang/StringUTF16", name := "putChar", desc := "([BII)V" } : Jvm.MethodName) jdk_52_method_4_code (3 : Nat) (Option.none : Option Jvm.ClassFile.FieldType)).before args0 about1 = true := code_word (m := ⟨8, 3⟩) (meth := k8m3) (c := k8c3) (by decide +kernel) rfl rfl rfl (by decide +kernel)
set_option maxRecDepth 65536 in
theorem w_c17 : (Jvm.Cond.code ({ cls := "java/lang/StringUTF16", name := "getChar", desc := "([BI)C" } : Jvm.MethodName) jdk_52_method_5_code (2 : Nat) (Option.some Jvm.ClassFile.FieldType.char)).before args0 about1 = true := code_word (m := ⟨8, 4⟩) (meth := k8m4) (c := k8c4) (by decide +kernel) rfl rfl rfl (by decide +kernel)
set_option maxRecDepth 65536 in
theorem w_c18 : (Jvm.Cond.code ({ cls := "java/lang/StringUTF16", name := "charAt", desc := "([BI)C" } : Jvm.MethodName) jdk_52_method_83_code (2 : Nat) (Option.some Jvm.ClassFile.FieldType.char)).before args0 about1 = true := code_word (m := ⟨8, 10⟩) (meth := k8m10) (c := k8c10) (by decide +kernel) rfl rfl rfl (by decide +kernel)
set_option maxRecDepth 65536 in
theorem w_c19 : (Jvm.Cond.code ({ cls := "java/lang/StringUTF16", name := "checkIndex", desc := "(I[B)V" } : Jvm.MethodName) jdk_52_method_91_code (2 : Nat) (Option.none : Option Jvm.ClassFile.FieldType)).before args0 about1 = true := code_word (m := ⟨8, 11⟩) (meth := k8m11) (c := k8c11) (by decide +kernel) rfl rfl rfl (by decide +kernel)
set_option maxRecDepth 65536 in
theorem w_c20 : (Jvm.Cond.code ({ cls := "java/lang/StringUTF16", name := "length", desc := "([B)I" } : Jvm.MethodName) jdk_52_method_6_code (1 : Nat) (Option.some Jvm.ClassFile.FieldType.int)).before args0 about1 = true := code_word (m := ⟨8, 5⟩) (meth := k8m5) (c := k8c5) (by decide +kernel) rfl rfl rfl (by decide +kernel)
def codes1 : List Jvm.Cond := [Jvm.Cond.code x code maxLocals ret, Jvm.Cond.code ({ cls := "java/lang/String", name := "<init>", desc := "([C)V" } : Jvm.MethodName) jdk_42_method_3_code (2 : Nat) (Option.none : Option Jvm.ClassFile.FieldType), Jvm.Cond.code ({ cls := "java/lang/String", name := "<init>", desc := "([CIILjava/lang/Void;)V" } : Jvm.MethodName) jdk_42_method_149_code (6 : Nat) (Option.none : Option Jvm.ClassFile.FieldType), Jvm.Cond.code ({ cls := "java/lang/Object", name := "<init>", desc := "()V" } : Jvm.MethodName) object_method_1_code (1 : Nat) (Option.none : Option Jvm.ClassFile.FieldType), Jvm.Cond.code ({ cls := "java/lang/StringUTF16", name := "compress", desc := "([CII)[B" } : Jvm.MethodName) jdk_52_method_16_code (6 : Nat) (Option.some (Jvm.ClassFile.FieldType.array Jvm.ClassFile.FieldType.byte)), Jvm.Cond.code ({ cls := "java/lang/StringUTF16", name := "compress", desc := "([CI[BII)I" } : Jvm.MethodName) jdk_52_method_21_code (7 : Nat) (Option.some Jvm.ClassFile.FieldType.int), Jvm.Cond.code ({ cls := "java/lang/StringUTF16", name := "coderFromArrayLen", desc := "([BI)B" } : Jvm.MethodName) jdk_52_method_15_code (2 : Nat) (Option.some Jvm.ClassFile.FieldType.byte), Jvm.Cond.code ({ cls := "com/example/ringward/ringward/Utf8", name := "littleEndian", desc := "(Ljava/lang/String;[BII)J" } : Jvm.MethodName) prog_14_method_3_code (9 : Nat) (Option.some Jvm.ClassFile.FieldType.long), Jvm.Cond.code ({ cls := "java/lang/String", name := "charAt", desc := "(I)C" } : Jvm.MethodName) jdk_42_method_56_code (2 : Nat) (Option.some Jvm.ClassFile.FieldType.char), Jvm.Cond.code ({ cls := "java/lang/String", name := "isLatin1", desc := "()Z" } : Jvm.MethodName) jdk_42_method_154_code (1 : Nat) (Option.some Jvm.ClassFile.FieldType.boolean), Jvm.Cond.code ({ cls := "java/lang/StringLatin1", name := "charAt", desc := "([BI)C" } : Jvm.MethodName) jdk_43_method_2_code (2 : Nat) (Option.some Jvm.ClassFile.FieldType.char), Jvm.Cond.code ({ cls := "java/lang/String", name := "checkIndex", desc := "(II)V" } : Jvm.MethodName) jdk_42_method_155_code (2 : Nat) (Option.none : Option Jvm.ClassFile.FieldType), Jvm.Cond.code ({ cls := "jdk/internal/util/Preconditions", name := "checkIndex", desc := "(IILjava/util/function/BiFunction;)I" } : Jvm.MethodName) jdk_41_method_11_code (3 : Nat) (Option.some Jvm.ClassFile.FieldType.int), Jvm.Cond.code ({ cls := "java/lang/StringUTF16", name := "toBytes", desc := "([CII)[B" } : Jvm.MethodName) jdk_52_method_14_code (5 : Nat) (Option.some (Jvm.ClassFile.FieldType.array Jvm.ClassFile.FieldType.byte)), Jvm.Cond.code ({ cls := "java/lang/StringUTF16", name := "newBytesFor", desc := "(I)[B" } : Jvm.MethodName) jdk_52_method_2_code (1 : Nat) (Option.some (Jvm.ClassFile.FieldType.array Jvm.ClassFile.FieldType.byte)), Jvm.Cond.code ({ cls := "java/lang/StringUTF16", name := "newBytesLength", desc := "(I)I" } : Jvm.MethodName) jdk_52_method_3_code (1 : Nat) (Option.some Jvm.ClassFile.FieldType.int), Jvm.Cond.code ({ cls := "java/lang/StringUTF16", name := "putChar", desc := "([BII)V" } : Jvm.MethodName) jdk_52_method_4_code (3 : Nat) (Option.none : Option Jvm.ClassFile.FieldType), Jvm.Cond.code ({ cls := "java/lang/StringUTF16", name := "getChar", desc := "([BI)C" } : Jvm.MethodName) jdk_52_method_5_code (2 : Nat) (Option.some Jvm.ClassFile.FieldType.char), Jvm.Cond.code ({ cls := "java/lang/StringUTF16", name := "charAt", desc := "([BI)C" } : Jvm.MethodName) jdk_52_method_83_code (2 : Nat) (Option.some Jvm.ClassFile.FieldType.char), Jvm.Cond.code ({ cls := "java/lang/StringUTF16", name := "checkIndex", desc := "(I[B)V" } : Jvm.MethodName) jdk_52_method_91_code (2 : Nat) (Option.none : Option Jvm.ClassFile.FieldType), Jvm.Cond.code ({ cls := "java/lang/StringUTF16", name := "length", desc := "([B)I" } : Jvm.MethodName) jdk_52_method_6_code (1 : Nat) (Option.some Jvm.ClassFile.FieldType.int)]
set_option maxRecDepth 65536 in
theorem codes_eq : words1.filter isCode = codes1 := rfl
theorem w_codes : ∀ c ∈ words1.filter isCode, c.before args0 about1 = true := by
  rw [codes_eq]
  intro c hc
  simp only [codes1, List.mem_cons, List.not_mem_nil, or_false] at hc
  rcases hc with rfl | rfl | rfl | rfl | rfl | rfl | rfl | rfl | rfl | rfl | rfl | rfl | rfl | rfl | rfl | rfl | rfl | rfl | rfl | rfl | rfl
  · exact w_c0
  · exact w_c1
  · exact w_c2
  · exact w_c3
  · exact w_c4
  · exact w_c5
  · exact w_c6
  · exact w_c7
  · exact w_c8
  · exact w_c9
  · exact w_c10
  · exact w_c11
  · exact w_c12
  · exact w_c13
  · exact w_c14
  · exact w_c15
  · exact w_c16
  · exact w_c17
  · exact w_c18
  · exact w_c19
  · exact w_c20
set_option maxRecDepth 65536 in
theorem w_t1 : (words1.take 24).all (fun c => isCode c || c.before args0 about1) = true := by decide +kernel
set_option maxRecDepth 65536 in
theorem w_t2 : ((words1.drop 24).take 24).all (fun c => isCode c || c.before args0 about1) = true := by decide +kernel
set_option maxRecDepth 65536 in
theorem w_t3 : (((words1.drop 24).drop 24).take 24).all (fun c => isCode c || c.before args0 about1) = true := by decide +kernel
set_option maxRecDepth 65536 in
theorem w_t4 : (((words1.drop 24).drop 24).drop 24).all (fun c => isCode c || c.before args0 about1) = true := by decide +kernel
theorem w_tables : (allAtoms (Jvm.Cond.code x code maxLocals ret :: tables_1)).before args0 about1 = true := by
  rw [allAtoms_all]
  show words1.all (fun c => c.before args0 about1) = true
  refine all_split ?_ w_codes
  rw [← List.take_append_drop 24 words1, List.all_append, w_t1, ← List.take_append_drop 24 (words1.drop 24), List.all_append, w_t2, ← List.take_append_drop 24 ((words1.drop 24).drop 24), List.all_append, w_t3, w_t4]
  rfl
set_option maxRecDepth 65536 in
theorem w_rest : rest_1_c.before args0 about1 = true := by decide +kernel
set_option maxRecDepth 65536 in
theorem w_case : (Jvm.Cond.and given_1 narrow_1).before args0 about1 = true := by decide +kernel
theorem w_applies : (headSpec (Jvm.Cond.code x code maxLocals ret :: tables_1) room_1).applies x e0.platform about1 = true :=
  (Spec.applies_iff w_frames).mpr ⟨w_running, w_runnable, w_alone, w_named, w_hears, w_ripe, w_room, w_tables⟩
theorem atStart : AtStart classFile x code maxLocals ret World_1 tables_1 room_1 Calls_1 rest_1 Pre_1 launch0 p0 e0 about1 theMethod args0 below0 :=
  ⟨lists_1, trivial, launch0.admits_env _ _ _, launch0.least_env, fairChoices_fair.cas, fairChoices_fair.clock, w_frames, w_args, w_heap, w_applies, trivial, w_rest, w_case⟩
end start1
theorem witness_1 : WitnessClaimed_1 := ⟨start1.p0, start1.e0, start1.about1, start1.theMethod, start1.args0, start1.below0, start1.atStart⟩
end Jvm.Pilot.@@N@@
