import JvmDerived
import JvmDerived.Pilot.@@N@@Statement
import JvmDerived.Pilot.@@N@@Code
set_option linter.unusedVariables false
set_option linter.unusedSimpArgs false
namespace Jvm.RoadKit
open Sem ClassFile Op Lib Jvm.Stand Jvm.Free Jvm.LawKit
def RAr (Z : State) (h : Heap) (a : Addr) (ty : FieldType) (n : Int32) (f : Nat → Addr) : Prop := ∃ c : Cell, Arr Z h a c ty ∧ c.slots.size = n.toNatClampNeg ∧ ¬ n < 0 ∧ ∀ i, i < c.slots.size → c.slots[i]? = some (.ref (f i))
section
variable {Z : State} {h h' : Heap} {a b : Addr} {ty : FieldType} {n : Int32} {f : Nat → Addr} {sl : Nat} {v : Value} {ws : List Addr}
theorem RAr.lt (F : RAr Z h a ty n f) : a < h.size := by obtain ⟨c, A, -⟩ := F; exact A.lt
theorem RAr.ext (F : RAr Z h a ty n f) (E : Ext h h') : RAr Z h' a ty n f := by obtain ⟨c, A, r⟩ := F; exact ⟨c, A.ext E, r⟩
theorem RAr.other (F : RAr Z h b ty n f) (W : Wr h h' a sl v) (q : b ≠ a) : RAr Z h' b ty n f := by obtain ⟨c, A, r⟩ := F; exact ⟨c, A.other W q, r⟩
theorem RAr.keep (F : RAr Z h a ty n f) (K : Keep h h' ws) (q : a ∉ ws) : RAr Z h' a ty n f := by obtain ⟨c, A, r⟩ := F; exact ⟨c, ⟨K.2.1 a c A.1 q, A.2⟩, r⟩
theorem own_staK0 {C m d : String} {w : Value} (S : Sta Z h C m d w) (K : Keep h h' []) : Sta Z h' C m d w := by
  obtain ⟨cf, i, k, f, st, cell, h1, h2, h3, h4, h5, h6, h7⟩ := S
  exact ⟨cf, i, k, f, st, cell, h1, h2, h3, h4, K.2.1 st cell h5 nin0, h6, h7⟩
theorem own_staK {C m d : String} {w : Value} (S : Sta Z h C m d w) (K : Keep h h' ws) (hw : ∀ x ∈ ws, ∀ cell : Cell, h[x]? = some cell → cell.vm.isStatics = false) : Sta Z h' C m d w := by
  obtain ⟨cf, i, k, f, st, cell, h1, h2, h3, h4, h5, h6, h7⟩ := S
  exact ⟨cf, i, k, f, st, cell, h1, h2, h3, h4, K.2.1 st cell h5 (fun q => by have z := hw st q cell h5; rw [h6] at z; cases z), h6, h7⟩
theorem own_ns0 : ∀ x ∈ ([] : List Addr), ∀ cell : Cell, h[x]? = some cell → cell.vm.isStatics = false := fun _ q => nomatch q
theorem own_nsS (n : ∀ cell : Cell, h[a]? = some cell → cell.vm.isStatics = false) (r : ∀ x ∈ ws, ∀ cell : Cell, h[x]? = some cell → cell.vm.isStatics = false) : ∀ x ∈ a :: ws, ∀ cell : Cell, h[x]? = some cell → cell.vm.isStatics = false := fun x q => by
  rcases List.mem_cons.mp q with rfl | q
  · exact n
  · exact r x q
theorem own_staK1 {C m d D : String} {w : Value} (S : Sta Z h C m d w) (K : Keep h h' [a]) (E : Exa Z h a D) : Sta Z h' C m d w := by
  obtain ⟨cf, i, k, f, st, cell, h1, h2, h3, h4, h5, h6, h7⟩ := S
  obtain ⟨c2, k2, g1, g2, g3, g4, g5⟩ := E
  have ne : st ≠ a := fun e => by
    subst e
    cases h5.symm.trans g1
    rw [g4] at h6
    cases h6
  exact ⟨cf, i, k, f, st, cell, h1, h2, h3, h4, K.2.1 st cell h5 (ninS ne nin0), h6, h7⟩
end
def IAr (Z : State) (h : Heap) (a : Addr) (ty : FieldType) (n : Int32) (f : Nat → Int32) : Prop := ∃ c : Cell, Arr Z h a c ty ∧ c.slots.size = n.toNatClampNeg ∧ ¬ n < 0 ∧ ∀ i, i < c.slots.size → c.slots[i]? = some (.int (f i))
def ownU (f : Nat → Int32) (j : Nat) (v : Int32) : Nat → Int32 := fun i => if i = j then v else f i
section
variable {Z : State} {h h' : Heap} {a b : Addr} {ty : FieldType} {n : Int32} {f : Nat → Int32} {sl : Nat} {v : Value} {ws : List Addr}
theorem IAr.lt (F : IAr Z h a ty n f) : a < h.size := by obtain ⟨c, A, -⟩ := F; exact A.lt
theorem IAr.ext (F : IAr Z h a ty n f) (E : Ext h h') : IAr Z h' a ty n f := by obtain ⟨c, A, r⟩ := F; exact ⟨c, A.ext E, r⟩
theorem IAr.other (F : IAr Z h b ty n f) (W : Wr h h' a sl v) (q : b ≠ a) : IAr Z h' b ty n f := by obtain ⟨c, A, r⟩ := F; exact ⟨c, A.other W q, r⟩
theorem IAr.keep (F : IAr Z h a ty n f) (K : Keep h h' ws) (q : a ∉ ws) : IAr Z h' a ty n f := by obtain ⟨c, A, r⟩ := F; exact ⟨c, ⟨K.2.1 a c A.1 q, A.2⟩, r⟩
theorem IAr.nostat (F : IAr Z h a ty n f) : ∀ cell : Cell, h[a]? = some cell → cell.vm.isStatics = false := by obtain ⟨c, A, r⟩ := F; exact Arr.nostat A
theorem IAr.nn (F : IAr Z h a ty n f) : ¬ n < 0 := by obtain ⟨c, A, S, q, r⟩ := F; exact q
theorem IAr.new {k : ClassId} {z : Int32} (A : Arr Z h a (newA k ty z) ty) (q : ¬ z < 0) (hd : defaultValue ty = .int 0) : IAr Z h a ty z (fun _ => 0) := by
  obtain ⟨c, A', -, S, q', H, -⟩ := Arv.new A q
  exact ⟨c, A', S, q', fun i hi => by have h1 := H i hi; rw [hd] at h1; simpa using h1⟩
theorem IAr.set {j : Nat} {x : Int32} (F : IAr Z h a ty n f) (W : Wr h h' a j (.int x)) : IAr Z h' a ty n (ownU f j x) := by
  obtain ⟨c, A, S, q, H⟩ := F
  refine ⟨c.setSlot j (.int x), A.same W, ?_, q, fun i hi => ?_⟩
  · simpa [Cell.setSlot] using S
  · have hi' : i < c.slots.size := by simpa [Cell.setSlot] using hi
    show (c.slots.setIfInBounds j (.int x))[i]? = some (.int (if i = j then x else f i))
    by_cases e : i = j
    · subst e
      rw [if_pos rfl, Array.getElem?_setIfInBounds_self_of_lt hi']
    · rw [if_neg e, Array.getElem?_setIfInBounds_ne (Ne.symm e)]
      exact H i hi'
end
def LAr (Z : State) (h : Heap) (a : Addr) (n : Int32) (f : Nat → Int64) : Prop := ∃ c : Cell, Arr Z h a c .long ∧ c.slots.size = n.toNatClampNeg ∧ ¬ n < 0 ∧ ∀ i, i < c.slots.size → c.slots[i]? = some (.long (f i))
def ownUL (f : Nat → Int64) (j : Nat) (v : Int64) : Nat → Int64 := fun i => if i = j then v else f i
section
variable {Z : State} {h h' : Heap} {a b : Addr} {n : Int32} {f : Nat → Int64} {sl : Nat} {v : Value} {ws : List Addr}
theorem LAr.lt (F : LAr Z h a n f) : a < h.size := by obtain ⟨c, A, -⟩ := F; exact A.lt
theorem LAr.ext (F : LAr Z h a n f) (E : Ext h h') : LAr Z h' a n f := by obtain ⟨c, A, r⟩ := F; exact ⟨c, A.ext E, r⟩
theorem LAr.other (F : LAr Z h b n f) (W : Wr h h' a sl v) (q : b ≠ a) : LAr Z h' b n f := by obtain ⟨c, A, r⟩ := F; exact ⟨c, A.other W q, r⟩
theorem LAr.keep (F : LAr Z h a n f) (K : Keep h h' ws) (q : a ∉ ws) : LAr Z h' a n f := by obtain ⟨c, A, r⟩ := F; exact ⟨c, ⟨K.2.1 a c A.1 q, A.2⟩, r⟩
theorem LAr.nostat (F : LAr Z h a n f) : ∀ cell : Cell, h[a]? = some cell → cell.vm.isStatics = false := by obtain ⟨c, A, r⟩ := F; exact Arr.nostat A
theorem LAr.nn (F : LAr Z h a n f) : ¬ n < 0 := by obtain ⟨c, A, S, q, r⟩ := F; exact q
theorem LAr.new {k : ClassId} {z : Int32} (A : Arr Z h a (newA k .long z) .long) (q : ¬ z < 0) : LAr Z h a z (fun _ => 0) := by
  obtain ⟨c, A', -, S, q', H, -⟩ := Arv.new A q
  exact ⟨c, A', S, q', fun i hi => by have h1 := H i hi; simpa [defaultValue] using h1⟩
theorem LAr.set {j : Nat} {x : Int64} (F : LAr Z h a n f) (W : Wr h h' a j (.long x)) : LAr Z h' a n (ownUL f j x) := by
  obtain ⟨c, A, S, q, H⟩ := F
  refine ⟨c.setSlot j (.long x), A.same W, ?_, q, fun i hi => ?_⟩
  · simpa [Cell.setSlot] using S
  · have hi' : i < c.slots.size := by simpa [Cell.setSlot] using hi
    show (c.slots.setIfInBounds j (.long x))[i]? = some (.long (if i = j then x else f i))
    by_cases e : i = j
    · subst e
      rw [if_pos rfl, Array.getElem?_setIfInBounds_self_of_lt hi']
    · rw [if_neg e, Array.getElem?_setIfInBounds_ne (Ne.symm e)]
      exact H i hi'
end
section New
variable {p : Program} {l : Launch} {e : Env} {R : Room} {s : State} {m : MethodId} {args : Array Value} {below : List Frame} {meth : Method} {c : Code} {T : State} {locs : List Loc} {cells slots : Nat}
theorem retI (X : Stand p l e R s m args below meth c T locs cells slots) (hx : p.tables.exec = Jvm.exec) {pc : Nat} {Ls : Array Slot} {z : Int32} {rest : List Value} (hret : meth.sig.returnType = some .int) (hd : decode c.code pc = .ok (.ireturn, 1)) {fs : List Frame}
    (hl : ∀ (f : JFrame) (acts : List Action), f.method = m → f.locked = none → f.entered = [] → (doReturn e (T.setTop f) acts (some (.int z))).1 = T.setFrames fs) : Steps p.tables e below (T.setTop (mkF m pc Ls (.int z :: rest))) (T.setFrames fs) := by
  have hm' : T.vm.method? m = some meth := X.method'
  have hn : narrow .int (.int z) = .int z := rfl
  show Steps p.tables e below (T.setTop { method := m, pc := pc, locals := Ls, stack := _ :: rest, locked := none }) _
  jvm_step X.here [X.here.top, hx, hd, hm', hret, hn]
  first | (intro acts; rw [hl _ acts rfl rfl rfl]) | rw [hl _ _ rfl rfl rfl]
  exact Steps.refl _
theorem ldI {Z : State} {h : Heap} (X : Stand p l e R s m args below meth c T locs cells slots) (hx : p.tables.exec = Jvm.exec) (hZ : Z.Warmed39 s.vm) (eT : T.heap = h) {a : Addr} {n : Int32} {f : Nat → Int32} (F : IAr Z h a .int n f) {j : Int32} (hj : ¬ j < 0 ∧ j < n) {g : JFrame} (hg : g.method = m) {rest : List Value} (hs : g.stack = .int j :: .ref a :: rest) (hd : decode c.code g.pc = .ok (.iaload, 1)) {target : State}
    (hr : Steps p.tables e below (T.setTop { g with pc := g.pc + 1, stack := .int (f j.toNatClampNeg) :: rest }) target) : Steps p.tables e below (T.setTop g) target := by
  obtain ⟨cl, A, S, q, H⟩ := F
  exact X.iaload hx (by rw [eT]; exact A.1) (State.isArrayOf_alike hZ.alike A.2.1) A.2.2 (inb_of S hj) (H _ (Nat.lt_of_not_le fun y => inb_of S hj (Or.inr y))) hg hs hd _ hr
theorem sI {Z : State} {h : Heap} (X : Stand p l e R s m args below meth c T locs cells slots) (hx : p.tables.exec = Jvm.exec) (hZ : Z.Warmed39 s.vm) (eT : T.heap = h) {a : Addr} {n : Int32} {f : Nat → Int32} (F : IAr Z h a .int n f) {j : Int32} {x : Int32} (hj : ¬ j < 0 ∧ j < n) {g : JFrame} (hg : g.method = m) {rest : List Value} (hs : g.stack = .int x :: .int j :: .ref a :: rest) (hd : decode c.code g.pc = .ok (.iastore, 1)) :
    ∃ T' h', Stand p l e R s m args below meth c T' (locs ++ [⟨a, j.toNatClampNeg⟩]) cells slots ∧ T'.heap = h' ∧ Wr h h' a j.toNatClampNeg (.int x) ∧ IAr Z h' a .int n (ownU f j.toNatClampNeg x) ∧ ∀ target, Steps p.tables e below (T'.setTop { g with pc := g.pc + 1, stack := rest }) target → Steps p.tables e below (T.setTop g) target := by
  have F' := F
  obtain ⟨cl, A, S, q, H⟩ := F
  obtain ⟨T', h', X', e', W', st'⟩ := stI X hx hZ eT A (inb_of S hj) hg hs hd
  exact ⟨T', h', X', e', W', F'.set W', st'⟩
theorem ldJ {Z : State} {h : Heap} (X : Stand p l e R s m args below meth c T locs cells slots) (hx : p.tables.exec = Jvm.exec) (hZ : Z.Warmed39 s.vm) (eT : T.heap = h) {a : Addr} {n : Int32} {f : Nat → Int64} (F : LAr Z h a n f) {j : Int32} (hj : ¬ j < 0 ∧ j < n) {g : JFrame} (hg : g.method = m) {rest : List Value} (hs : g.stack = .int j :: .ref a :: rest) (hd : decode c.code g.pc = .ok (.laload, 1)) {target : State}
    (hr : Steps p.tables e below (T.setTop { g with pc := g.pc + 1, stack := .long (f j.toNatClampNeg) :: rest }) target) : Steps p.tables e below (T.setTop g) target := by
  obtain ⟨cl, A, S, q, H⟩ := F
  exact X.laload hx (by rw [eT]; exact A.1) (State.isArrayOf_alike hZ.alike A.2.1) A.2.2 (inb_of S hj) (H _ (Nat.lt_of_not_le fun y => inb_of S hj (Or.inr y))) hg hs hd _ hr
theorem sJ {Z : State} {h : Heap} (X : Stand p l e R s m args below meth c T locs cells slots) (hx : p.tables.exec = Jvm.exec) (hZ : Z.Warmed39 s.vm) (eT : T.heap = h) {a : Addr} {n : Int32} {f : Nat → Int64} (F : LAr Z h a n f) {j : Int32} {x : Int64} (hj : ¬ j < 0 ∧ j < n) {g : JFrame} (hg : g.method = m) {rest : List Value} (hs : g.stack = .long x :: .int j :: .ref a :: rest) (hd : decode c.code g.pc = .ok (.lastore, 1)) :
    ∃ T' h', Stand p l e R s m args below meth c T' (locs ++ [⟨a, j.toNatClampNeg⟩]) cells slots ∧ T'.heap = h' ∧ Wr h h' a j.toNatClampNeg (.long x) ∧ LAr Z h' a n (ownUL f j.toNatClampNeg x) ∧ ∀ target, Steps p.tables e below (T'.setTop { g with pc := g.pc + 1, stack := rest }) target → Steps p.tables e below (T.setTop g) target := by
  have F' := F
  obtain ⟨cl, A, S, q, H⟩ := F
  obtain ⟨T', h', X', e', W', st'⟩ := stJ X hx hZ eT A (inb_of S hj) hg hs hd
  exact ⟨T', h', X', e', W', F'.set W', st'⟩
theorem alen {Z : State} {h : Heap} (X : Stand p l e R s m args below meth c T locs cells slots) (hx : p.tables.exec = Jvm.exec) (hZ : Z.Warmed39 s.vm) (eT : T.heap = h) {a : Addr} {ty : FieldType} {n : Int32} {f : Nat → Int32} (F : IAr Z h a ty n f) {g : JFrame} (hg : g.method = m) {rest : List Value} (hs : g.stack = .ref a :: rest) (hd : decode c.code g.pc = .ok (.arraylength, 1)) {target : State}
    (hr : Steps p.tables e below (T.setTop { g with pc := g.pc + 1, stack := .int n :: rest }) target) : Steps p.tables e below (T.setTop g) target := by
  obtain ⟨cl, A, S, q, H⟩ := F
  refine X.arraylength hx (by rw [eT]; exact A.1) (State.isArrayOf_alike hZ.alike A.2.1) hg hs hd _ ?_
  rw [len_of S q]
  exact hr
theorem alenL {Z : State} {h : Heap} (X : Stand p l e R s m args below meth c T locs cells slots) (hx : p.tables.exec = Jvm.exec) (hZ : Z.Warmed39 s.vm) (eT : T.heap = h) {a : Addr} {n : Int32} {f : Nat → Int64} (F : LAr Z h a n f) {g : JFrame} (hg : g.method = m) {rest : List Value} (hs : g.stack = .ref a :: rest) (hd : decode c.code g.pc = .ok (.arraylength, 1)) {target : State}
    (hr : Steps p.tables e below (T.setTop { g with pc := g.pc + 1, stack := .int n :: rest }) target) : Steps p.tables e below (T.setTop g) target := by
  obtain ⟨cl, A, S, q, H⟩ := F
  refine X.arraylength hx (by rw [eT]; exact A.1) (State.isArrayOf_alike hZ.alike A.2.1) hg hs hd _ ?_
  rw [len_of S q]
  exact hr
theorem ldR {Z : State} {h : Heap} (X : Stand p l e R s m args below meth c T locs cells slots) (hx : p.tables.exec = Jvm.exec) (hZ : Z.Warmed39 s.vm) (eT : T.heap = h) {a : Addr} {ty : FieldType} {n : Int32} {f : Nat → Addr} (F : RAr Z h a ty n f) (hty : ty.isReference = true) {j : Int32} (hj : ¬ j < 0 ∧ j < n) {g : JFrame} (hg : g.method = m) {rest : List Value} (hs : g.stack = .int j :: .ref a :: rest) (hd : decode c.code g.pc = .ok (.aaload, 1)) {target : State}
    (hr : Steps p.tables e below (T.setTop { g with pc := g.pc + 1, stack := .ref (f j.toNatClampNeg) :: rest }) target) : Steps p.tables e below (T.setTop g) target := by
  obtain ⟨cl, A, S, q, H⟩ := F
  exact X.aaload hx (by rw [eT]; exact A.1) (State.isArrayOf_alike hZ.alike A.2.1) hty A.2.2 (inb_of S hj) (H _ (Nat.lt_of_not_le fun y => inb_of S hj (Or.inr y))) hg hs hd _ hr
end New
theorem own_selp {s : State} {a0 : Array Value} {y : MethodName} {n : Nat} (wi : (Cond.instantiable y.cls n).before a0 s = true) (hinst : (Cond.instanceMethod y).before a0 s = true) (hp : s.PrivateAt y) (hy : y.cls ≠ "java/lang/invoke/MethodHandle" ∧ y.cls ≠ "java/lang/invoke/VarHandle") : (Cond.selects y.cls y y).before a0 s = true := by
  obtain ⟨t, kt, g1, g2, g3, g4, -⟩ := Cond.instantiable_spec wi
  have g4' : kt.isInterface = false := by
    cases hq : kt.isInterface
    · rfl
    · rw [hq] at g4; cases g4
  exact selects_self_of_private g1 g2 g4' hp hinst hy
def ownUR (c : Nat → Addr) (j : Nat) (v : Addr) : Nat → Addr := fun i => if i = j then v else c i
def ownUF (f : Nat → Nat → Int32) (j : Nat) (v : Nat → Int32) : Nat → Nat → Int32 := fun i => if i = j then v else f i
def ownUN (f : Nat → Int32) (j : Nat) (v : Int32) : Nat → Int32 := fun i => if i = j then v else f i
/-- four rows: the array of rows at ro, the rows' addresses c, lengths n and contents f; apart from each other and from bad; all made since n0 -/
def OwnR (Z : State) (h : Heap) (ro : Addr) (c : Nat → Addr) (n : Nat → Int32) (f : Nat → Nat → Int32) (bad : List Addr) (n0 : Nat) : Prop :=
  RAr Z h ro (.array .int) 4 c ∧ Exa Z h ro "[[I" ∧ n0 ≤ ro ∧ (∀ i, i < 4 → IAr Z h (c i) .int (n i) (f i) ∧ n0 ≤ c i ∧ ro ≠ c i) ∧ (∀ i j, i < 4 → j < 4 → i ≠ j → c i ≠ c j) ∧ ∀ b ∈ bad, ro ≠ b ∧ ∀ i, i < 4 → c i ≠ b
section
variable {Z : State} {h h' : Heap} {ro a : Addr} {c : Nat → Addr} {n : Nat → Int32} {f : Nat → Nat → Int32} {bad : List Addr} {n0 sl : Nat} {v : Value}
theorem OwnR.ext (O : OwnR Z h ro c n f bad n0) (E : Ext h h') : OwnR Z h' ro c n f bad n0 := by
  obtain ⟨R, X, g, A, N, B⟩ := O
  exact ⟨R.ext E, X.ext E, g, fun i hi => ⟨(A i hi).1.ext E, (A i hi).2⟩, N, B⟩
theorem OwnR.keep {ws : List Addr} (O : OwnR Z h ro c n f bad n0) (K : Keep h h' ws) (hw : ∀ w ∈ ws, w ∈ bad) : OwnR Z h' ro c n f bad n0 := by
  obtain ⟨R, X, g, A, N, B⟩ := O
  exact ⟨R.keep K (fun q => (B _ (hw _ q)).1 rfl), X.keep K, g, fun i hi => ⟨(A i hi).1.keep K (fun q => (B _ (hw _ q)).2 i hi rfl), (A i hi).2⟩, N, B⟩
theorem OwnR.other (O : OwnR Z h ro c n f bad n0) (W : Wr h h' a sl v) (ha : a ∈ bad) : OwnR Z h' ro c n f bad n0 := by
  obtain ⟨R, X, g, A, N, B⟩ := O
  have hb := B a ha
  exact ⟨R.other W hb.1, X.wr W, g, fun i hi => ⟨(A i hi).1.other W (hb.2 i hi), (A i hi).2⟩, N, B⟩
theorem OwnR.set {D j : Nat} {x : Int32} (O : OwnR Z h ro c n f bad n0) (hD : D < 4) (W : Wr h h' (c D) j (.int x)) : OwnR Z h' ro c n (ownUF f D (ownU (f D) j x)) bad n0 := by
  obtain ⟨R, X, g, A, N, B⟩ := O
  refine ⟨R.other W (A D hD).2.2, X.wr W, g, fun i hi => ⟨?_, (A i hi).2⟩, N, B⟩
  by_cases e : i = D
  · subst e
    show IAr Z h' (c i) .int (n i) (if i = i then _ else _)
    rw [if_pos rfl]; exact (A i hi).1.set W
  · show IAr Z h' (c i) .int (n i) (if i = D then _ else _)
    rw [if_neg e]; exact (A i hi).1.other W (N i D hi hD e)
theorem RAr.set {ty : FieldType} {z : Int32} {j : Nat} {x : Addr} (F : RAr Z h a ty z c) (W : Wr h h' a j (.ref x)) : RAr Z h' a ty z (ownUR c j x) := by
  obtain ⟨cl, A, S, q, H⟩ := F
  refine ⟨cl.setSlot j (.ref x), A.same W, ?_, q, fun i hi => ?_⟩
  · simpa [Cell.setSlot] using S
  · have hi' : i < cl.slots.size := by simpa [Cell.setSlot] using hi
    show (cl.slots.setIfInBounds j (.ref x))[i]? = some (.ref (if i = j then x else c i))
    by_cases e : i = j
    · subst e
      rw [if_pos rfl, Array.getElem?_setIfInBounds_self_of_lt hi']
    · rw [if_neg e, Array.getElem?_setIfInBounds_ne (Ne.symm e)]
      exact H i hi'
theorem OwnR.grow {D : Nat} {x : Addr} {z : Int32} {g' : Nat → Int32} (O : OwnR Z h ro c n f bad n0) (hD : D < 4) (Ax : IAr Z h x .int z g') (hx0 : n0 ≤ x) (hxr : ro ≠ x) (hxc : ∀ i, i < 4 → c i ≠ x) (hxb : ∀ b ∈ bad, x ≠ b) (W : Wr h h' ro D (.ref x)) : OwnR Z h' ro (ownUR c D x) (ownUN n D z) (ownUF f D g') bad n0 := by
  obtain ⟨R, X, g, A, N, B⟩ := O
  refine ⟨R.set W, X.wr W, g, fun i hi => ?_, fun i j hi hj q => ?_, fun b hb => ⟨(B b hb).1, fun i hi => ?_⟩⟩
  · unfold ownUR ownUN ownUF
    by_cases e : i = D
    · simp only [if_pos e]; exact ⟨Ax.other W (Ne.symm hxr), hx0, hxr⟩
    · simp only [if_neg e]; exact ⟨(A i hi).1.other W (Ne.symm (A i hi).2.2), (A i hi).2⟩
  · unfold ownUR
    by_cases e : i = D
    · by_cases e' : j = D
      · exact absurd (e.trans e'.symm) q
      · rw [if_pos e, if_neg e']; exact Ne.symm (hxc j hj)
    · by_cases e' : j = D
      · rw [if_neg e, if_pos e']; exact hxc i hi
      · rw [if_neg e, if_neg e']; exact N i j hi hj q
  · unfold ownUR
    by_cases e : i = D
    · rw [if_pos e]; exact hxb b hb
    · rw [if_neg e]; exact (B b hb).2 i hi
end
section
variable {Z : State} {h h' : Heap} {a b x ro : Addr} {c : Nat → Addr} {z : Int32}
theorem own_sto {a0 : Array Value} (w : (Cond.arrayOver (.array .int)).before a0 Z = true) (X : Exa Z h ro "[[I") (R : RAr Z h ro (.array .int) z c) (E : Exa Z h x "[I") : Sto Z h ro (.ref x) := by
  obtain ⟨cl, A, -⟩ := R
  obtain ⟨cell, k, h1, h2, -⟩ := X
  cases A.1.symm.trans h1
  obtain ⟨comp, cA, k', g1, g2, g3, g4⟩ := Cond.arrayOver_specA w
  have e1 : ("[" ++ (FieldType.array FieldType.int).toString) = "[[I" := by decide
  have e2 : (FieldType.array FieldType.int).toString = "[I" := by decide
  rw [e1] at g4
  rw [e2] at g1
  cases h2.symm.trans g4
  exact Sto.ofVA A rfl ⟨k', comp, g2, g3, g1⟩ (Ins.self E)
end
section New
variable {p : Program} {l : Launch} {e : Env} {R : Room} {s : State} {m : MethodId} {args : Array Value} {below : List Frame} {meth : Method} {c : Code} {T : State} {locs : List Loc} {cells slots : Nat}
theorem sR {Z : State} {h : Heap} (X : Stand p l e R s m args below meth c T locs cells slots) (hx : p.tables.exec = Jvm.exec) (hZ : Z.Warmed39 s.vm) (eT : T.heap = h) {a x : Addr} {ty : FieldType} {n : Int32} {f : Nat → Addr} (F : RAr Z h a ty n f) (hty : ty.isReference = true) (S : Sto Z h a (.ref x)) {j : Int32} (hj : ¬ j < 0 ∧ j < n) {g : JFrame} (hg : g.method = m) {rest : List Value} (hs : g.stack = .ref x :: .int j :: .ref a :: rest) (hd : decode c.code g.pc = .ok (.aastore, 1)) :
    ∃ T' h', Stand p l e R s m args below meth c T' (locs ++ [⟨a, j.toNatClampNeg⟩]) cells slots ∧ T'.heap = h' ∧ Wr h h' a j.toNatClampNeg (.ref x) ∧ ∀ target, Steps p.tables e below (T'.setTop { g with pc := g.pc + 1, stack := rest }) target → Steps p.tables e below (T.setTop g) target := by
  obtain ⟨cl, A, Sz, q, H⟩ := F
  exact stR X hx hZ eT A (inb_of Sz hj) hty S hg hs hd
theorem own_arv {Z : State} {h : Heap} {a : Addr} {z : Int32} {f : Nat → Int32} (F : IAr Z h a .int z f) : ∃ k, Arv Z h a k .int z ((List.range z.toNatClampNeg).map fun i => Value.int (f i)) (.int 0) := by
  obtain ⟨cl, A, S, q, H⟩ := F
  refine ⟨cl.cls, cl, A, rfl, S, q, fun k hk => ?_, fun i hi => ?_⟩
  · rw [H k hk]; rw [S] at hk; simp [hk]
  · rw [S] at hi; simp [hi, fits]
theorem own_ofarv {Z : State} {h : Heap} {a : Addr} {z : Int32} {f : Nat → Int32} {k : ClassId} (F : Arv Z h a k .int z ((List.range z.toNatClampNeg).map fun i => Value.int (f i)) (.int 0)) : IAr Z h a .int z f := by
  obtain ⟨cl, A, -, S, q, H, -⟩ := F
  refine ⟨cl, A, S, q, fun i hi => ?_⟩
  rw [H i hi]; rw [S] at hi; simp [hi]
theorem own_cp0 {Z : State} {h : Heap} {a b : Addr} {z z' nn : Int32} {f f' : Nat → Int32} (X : Stand p l e R s m args below meth c T locs cells slots) (hx : p.tables.exec = Jvm.exec) (hZ : Z.Warmed39 s.vm) {a0 : Array Value} {own : String} {index : Nat} (hown : s.vm.findClass own = some m.cls)
    (w1 : (Cond.methodLink own index Jvm.Stand.acN).before a0 Z = true) (w2 : (Cond.native Jvm.Stand.acN).before a0 Z = true) (w3 : (Cond.static Jvm.Stand.acN).before a0 Z = true) (w4 : (Cond.initialized "java/lang/System").before a0 Z = true) (eT : T.heap = h)
    (A : IAr Z h a .int z f) (B : IAr Z h b .int z' f') (hn : nn = 0) {n0 : Nat} (N : Fr n0 locs) (ge : n0 ≤ b)
    {g : JFrame} (hg : g.method = m) (hsize : g.locals.size = c.maxLocals) {rest : List Value} (hs : g.stack = .int nn :: .int 0 :: .ref b :: .int 0 :: .ref a :: rest) (hd : decode c.code g.pc = .ok (.invokestatic index, 3))
    (hf : 1 ≤ R.frames) {W : Nat} (hW : 2 * g.monitorRoom + (rest.map fun v => v.category).sum ≤ W) (hlo : W + (nativeFrameWords "java/lang/System" "arraycopy" 5 + 11) ≤ R.locals) :
    ∃ T' h' L, Stand p l e R s m args below meth c T' L cells slots ∧ T'.heap = h' ∧ Fr n0 L ∧ Keep h h' [b] ∧ IAr Z h' b .int z' f' ∧
      ∀ target, Steps p.tables e below (T'.setTop { g with pc := g.pc + 3, stack := rest }) target → Steps p.tables e below (T.setTop g) target := by
  subst hn
  obtain ⟨k, A'⟩ := own_arv A
  obtain ⟨k', B'⟩ := own_arv B
  obtain ⟨T', h', L, X', e', N', K', V', st⟩ := cpA X hx hZ hown w1 w2 w3 w4 eT A' B' (us := []) (Or.inl ⟨rfl, rfl⟩) (by decide) (by decide) (by decide) (by simp) (by simp) (by simp) (by simp) N ge hg hsize hs hd hf hW hlo
  refine ⟨T', h', L, X', e', N', K', own_ofarv (k := k') ?_, st⟩
  simpa using V'
theorem own_grid {Z : State} {h : Heap} (X : Stand p l e R s m args below meth c T locs cells slots) (hx : p.tables.exec = Jvm.exec) (hZ : Z.Warmed39 s.vm) {a0 : Array Value} {own : String} {index : Nat} (hown : s.vm.findClass own = some m.cls)
    (w1 : (Cond.classLink own index "[[I").before a0 Z = true) (w2 : (Cond.arrayOver (.array .int)).before a0 Z = true) (w3 : (Cond.arrayClass .int).before a0 Z = true) (eT : T.heap = h) {bad : List Addr} {n0 : Nat} (hb : ∀ b ∈ bad, b < h.size) (hn0 : n0 ≤ h.size) {n : Int32} (hn : n = 4) {g : JFrame} (hg : g.method = m) (hd : decode c.code g.pc = .ok (.multianewarray index 2, 4)) {rest : List Value} (hs : g.stack = .int 0 :: .int n :: rest) (hc : cells + 5 ≤ R.cells) (hl : slots + 4 ≤ R.slots) :
    ∃ T' h', Stand p l e R s m args below meth c T' locs (cells + 5) (slots + 4) ∧ T'.heap = h' ∧ Ext h h' ∧ OwnR Z h' h.size (fun i => h.size + 1 + i) (fun _ => 0) (fun _ _ => 0) bad n0 ∧
      ∀ target, Steps p.tables e below (T'.setTop { g with pc := g.pc + 4, stack := .ref h.size :: rest }) target → Steps p.tables e below (T.setTop g) target := by
  subst hn
  obtain ⟨T', h', cA, comp, X', e', E', V, -, EX, I, st⟩ := gridM X hx hZ (C := "[I") (ad := "[[I") (ty := .int) hown (by decide) (by decide) w1 w2 w3 eT hg hd hs (by decide) (by decide) (N := 4) rfl rfl (cap := 0) (by decide) (by decide) (by decide) rfl rfl hc hl
  refine ⟨T', h', X', e', E', ⟨?_, EX, hn0, fun i hi => ⟨?_, by show n0 ≤ h.size + 1 + i; omega, by show h.size ≠ h.size + 1 + i; omega⟩, fun i j hi hj q => by show h.size + 1 + i ≠ h.size + 1 + j; omega, fun b hb' => ⟨?_, fun i hi => ?_⟩⟩, st⟩
  · obtain ⟨cl, A, -, S, q, H, -⟩ := V
    refine ⟨cl, A, S, q, fun i hi => ?_⟩
    have hi' : i < 4 := by rw [S] at hi; exact hi
    rw [H i hi]
    match i, hi' with
    | 0, _ => rfl
    | 1, _ => rfl
    | 2, _ => rfl
    | 3, _ => rfl
  · refine IAr.new (k := comp) (I i (h.size + 1 + i) ?_).1 (by show ¬ (0 : Int32) < 0; decide) rfl
    simp [hi]
  · exact Nat.ne_of_gt (hb b hb')
  · exact Nat.ne_of_gt (Nat.lt_of_lt_of_le (hb b hb') (Nat.le_trans (Nat.le_add_right _ 1) (Nat.le_add_right _ i)))
end New
theorem own_in0 {bad : List Addr} : ∀ w ∈ ([] : List Addr), w ∈ bad := fun _ q => nomatch q
theorem own_inS {bad ws : List Addr} {a : Addr} (n : a ∈ bad) (r : ∀ w ∈ ws, w ∈ bad) : ∀ w ∈ a :: ws, w ∈ bad := fun w q => by
  rcases List.mem_cons.mp q with rfl | q
  · exact n
  · exact r w q
theorem own_ne0 {x : Addr} : ∀ b ∈ ([] : List Addr), x ≠ b := fun _ q => nomatch q
theorem own_neS {x a : Addr} {bad : List Addr} (n : x ≠ a) (r : ∀ b ∈ bad, x ≠ b) : ∀ b ∈ a :: bad, x ≠ b := fun b q => by
  rcases List.mem_cons.mp q with rfl | q
  · exact n
  · exact r b q
theorem own_lt0 {h : Heap} : ∀ b ∈ ([] : List Addr), b < h.size := fun _ q => nomatch q
theorem own_ltS {h : Heap} {a : Addr} {bad : List Addr} (n : a < h.size) (r : ∀ b ∈ bad, b < h.size) : ∀ b ∈ a :: bad, b < h.size := fun b q => by
  rcases List.mem_cons.mp q with rfl | q
  · exact n
  · exact r b q
theorem OwnR.badS {Z : State} {h : Heap} {ro x : Addr} {c : Nat → Addr} {n : Nat → Int32} {f : Nat → Nat → Int32} {bad : List Addr} {n0 : Nat} (O : OwnR Z h ro c n f bad n0) (hr : ro ≠ x) (hc : ∀ i, i < 4 → c i ≠ x) : OwnR Z h ro c n f (x :: bad) n0 := by
  obtain ⟨R, X, g, A, N, B⟩ := O
  refine ⟨R, X, g, A, N, fun b q => ?_⟩
  rcases List.mem_cons.mp q with rfl | q
  · exact ⟨hr, hc⟩
  · exact B b q
end Jvm.RoadKit
namespace Jvm.Pilot.@@N@@
open Jvm Jvm.ClassFile Sem Op Lib Jvm.Free Jvm.Stand Jvm.LawKit Jvm.RoadKit Bundle Jvm.Pilot.@@N@@.Jvm.D
theorem own_e0 : (0 : Int32).toInt = 0 := rfl
theorem own_e1 : (1 : Int32).toInt = 1 := rfl
theorem own_e3 : (3 : Int32).toInt = 3 := rfl
theorem own_e4 : (4 : Int32).toInt = 4 := rfl
theorem own_i3 {j z : Int32} (h : 0 ≤ j.toInt ∧ j.toInt < 3) (hz : z = 3) : ¬ j < 0 ∧ j < z := by
  subst hz
  rw [Int32.lt_iff_toInt_lt, Int32.lt_iff_toInt_lt, own_e0, own_e3]; omega
theorem own_i4 {j z : Int32} (h : 0 ≤ j.toInt ∧ j.toInt < 4) (hz : z = 4) : ¬ j < 0 ∧ j < z := by
  subst hz
  rw [Int32.lt_iff_toInt_lt, Int32.lt_iff_toInt_lt, own_e0, own_e4]; omega
theorem own_d4 {j : Int32} (h : 0 ≤ j.toInt ∧ j.toInt < 4) : j.toNatClampNeg < 4 := by
  show j.toInt.toNat < 4; omega
def own_J (sz n : Nat → Int32) (f : Nat → Nat → Int32) (i : Int) : Prop := (∀ D, D < 4 → (sz D = 0 ∧ n D = 0) ∨ (n D = 4 ∧ 0 < (sz D).toInt ∧ (sz D).toInt ≤ i)) ∧ ∀ D j, 0 ≤ (f D j).toInt ∧ (f D j).toInt < 3
theorem own_gz {sz n : Nat → Int32} {f : Nat → Nat → Int32} {i d : Int32} (hJ : own_J sz n f i.toInt) (hd : 0 ≤ d.toInt ∧ d.toInt < 4) (hi : 0 ≤ i.toInt ∧ i.toInt < 3) (hc : sz d.toNatClampNeg = n d.toNatClampNeg) : sz d.toNatClampNeg = 0 ∧ n d.toNatClampNeg = 0 := by
  rcases hJ.1 _ (own_d4 hd) with h | ⟨h1, h2, h3⟩
  · exact h
  · rw [hc, h1, own_e4] at h3; omega
theorem own_n4 {sz n : Nat → Int32} {f : Nat → Nat → Int32} {i d : Int32} (hJ : own_J sz n f i.toInt) (hd : 0 ≤ d.toInt ∧ d.toInt < 4) (hc : ¬ sz d.toNatClampNeg = n d.toNatClampNeg) : n d.toNatClampNeg = 4 ∧ 0 < (sz d.toNatClampNeg).toInt ∧ (sz d.toNatClampNeg).toInt ≤ i.toInt := by
  rcases hJ.1 _ (own_d4 hd) with h | h
  · exact absurd (h.1.trans h.2.symm) hc
  · exact h
theorem own_g60 {s : Int32} (h : s = 0) : ¬ ((0 : Int32) < s) := by subst h; decide
theorem own_m1 {i : Int32} (h : 0 ≤ i.toInt) : (i - 1).toInt = i.toInt - 1 := by
  have b := c_isub i 1
  have r := rng32 (i - 1)
  have r0 := rng32 i
  have e := own_e1
  omega
theorem own_p1 {i : Int32} (h : 0 ≤ i.toInt) : (i + -1).toInt = i.toInt - 1 := by
  have b := c_iadd i (-1)
  have r := rng32 (i + -1)
  have r0 := rng32 i
  have e : (-1 : Int32).toInt = -1 := rfl
  omega
theorem own_a1 {sz n : Nat → Int32} {f y0 : Nat → Nat → Int32} {i d i5 : Int32} {k : Nat} (hI : 0 ≤ i5.toInt ∧ i5.toInt ≤ 2 ∧ (∀ D j, 0 ≤ (y0 D j).toInt ∧ (y0 D j).toInt < 3) ∧ i5.toInt < ((k + 1 : Nat) : Int)) (hJ : own_J sz n f i.toInt) (hd : 0 ≤ d.toInt ∧ d.toInt < 4) (hi : 0 ≤ i.toInt ∧ i.toInt < 3) (hc : ¬ sz d.toNatClampNeg = n d.toNatClampNeg) (hp : (0 : Int32) < i5) : ¬ (i5 - 1) < 0 ∧ (i5 - 1) < n d.toNatClampNeg := by
  rw [(own_n4 hJ hd hc).1]
  rw [Int32.lt_iff_toInt_lt, own_e0] at hp
  rw [Int32.lt_iff_toInt_lt, Int32.lt_iff_toInt_lt, own_e0, own_e4, own_m1 (by omega)]
  have h1 := hI.2.1
  omega
theorem own_a2 {sz n : Nat → Int32} {f y0 : Nat → Nat → Int32} {i d i5 : Int32} {k : Nat} (hI : 0 ≤ i5.toInt ∧ i5.toInt ≤ 2 ∧ (∀ D j, 0 ≤ (y0 D j).toInt ∧ (y0 D j).toInt < 3) ∧ i5.toInt < ((k + 1 : Nat) : Int)) (hJ : own_J sz n f i.toInt) (hd : 0 ≤ d.toInt ∧ d.toInt < 4) (hi : 0 ≤ i.toInt ∧ i.toInt < 3) (hc : ¬ sz d.toNatClampNeg = n d.toNatClampNeg) : ¬ i5 < 0 ∧ i5 < n d.toNatClampNeg := by
  rw [(own_n4 hJ hd hc).1]
  rw [Int32.lt_iff_toInt_lt, Int32.lt_iff_toInt_lt, own_e0, own_e4]
  have h1 := hI.2.1
  have h0 := hI.1
  omega
theorem own_rg {y : Nat → Nat → Int32} (h : ∀ D j, 0 ≤ (y D j).toInt ∧ (y D j).toInt < 3) (D0 j0 : Nat) (v : Int32) (hv : 0 ≤ v.toInt ∧ v.toInt < 3) : ∀ D j, 0 ≤ (ownUF y D0 (ownU (y D0) j0 v) D j).toInt ∧ (ownUF y D0 (ownU (y D0) j0 v) D j).toInt < 3 := by
  intro D j
  unfold ownUF
  split
  · unfold ownU
    split
    · exact hv
    · exact h _ _
  · exact h _ _
theorem own_st {y0 : Nat → Nat → Int32} {i5 : Int32} {D0 : Nat} {k : Nat} (hI : 0 ≤ i5.toInt ∧ i5.toInt ≤ 2 ∧ (∀ D j, 0 ≤ (y0 D j).toInt ∧ (y0 D j).toInt < 3) ∧ i5.toInt < ((k + 1 : Nat) : Int)) (hp : (0 : Int32) < i5) : 0 ≤ (i5 + -1).toInt ∧ (i5 + -1).toInt ≤ 2 ∧ (∀ D j, 0 ≤ (ownUF y0 D0 (ownU (y0 D0) i5.toNatClampNeg (y0 D0 (i5 - 1).toNatClampNeg)) D j).toInt ∧ (ownUF y0 D0 (ownU (y0 D0) i5.toNatClampNeg (y0 D0 (i5 - 1).toNatClampNeg)) D j).toInt < 3) ∧ (i5 + -1).toInt < (k : Int) := by
  obtain ⟨h0, h1, h2, h3⟩ := hI
  rw [Int32.lt_iff_toInt_lt, own_e0] at hp
  rw [own_p1 h0]
  exact ⟨by omega, by omega, own_rg h2 _ _ _ (h2 _ _), by omega⟩
theorem own_in {sz n : Nat → Int32} {f : Nat → Nat → Int32} {i d : Int32} (hJ : own_J sz n f i.toInt) (hd : 0 ≤ d.toInt ∧ d.toInt < 4) (hi : 0 ≤ i.toInt ∧ i.toInt < 3) (hc : ¬ sz d.toNatClampNeg = n d.toNatClampNeg) : 0 ≤ (sz d.toNatClampNeg).toInt ∧ (sz d.toNatClampNeg).toInt ≤ 2 ∧ (∀ D j, 0 ≤ (f D j).toInt ∧ (f D j).toInt < 3) ∧ (sz d.toNatClampNeg).toInt < ((3 : Nat) : Int) := by
  obtain ⟨h1, h2, h3⟩ := own_n4 hJ hd hc
  exact ⟨by omega, by omega, hJ.2, by omega⟩
theorem own_f0 {sz n : Nat → Int32} {f : Nat → Nat → Int32} {d : Int32} (hJ : own_J sz n f 3) (hd : 0 ≤ d.toInt ∧ d.toInt < 4) (hc : ¬ sz d.toNatClampNeg = 0) : ¬ (0 : Int32) < 0 ∧ (0 : Int32) < n d.toNatClampNeg := by
  rcases hJ.1 _ (own_d4 hd) with h | h
  · exact absurd h.1 hc
  · rw [h.1]; decide

theorem d5_0 : decode jdk_29_method_65_code 0 = .ok (.iload_n 0, 1) := by decide +kernel
theorem d5_1 : decode jdk_29_method_65_code 1 = .ok (.iload_n 1, 1) := by decide +kernel
theorem d5_2 : decode jdk_29_method_65_code 2 = .ok (.if_icmp .lt 7, 3) := by decide +kernel
theorem d5_5 : decode jdk_29_method_65_code 5 = .ok (.iload_n 0, 1) := by decide +kernel
theorem d5_6 : decode jdk_29_method_65_code 6 = .ok (.goto 4, 3) := by decide +kernel
theorem d5_9 : decode jdk_29_method_65_code 9 = .ok (.iload_n 1, 1) := by decide +kernel
theorem d5_10 : decode jdk_29_method_65_code 10 = .ok (.ireturn, 1) := by decide +kernel
theorem ef_5 (m : MethodId) (x0 : Int32) (x1 : Int32) : entryFrame m #[(.int x0), (.int x1)] 2 = mkF m 0 #[.val (.int x0), .val (.int x1)] [] := by first | (simp [entryFrame, mkF, argsToLocals, Value.category]; done) | rfl
def f5 (p1 : Int32) (p2 : Int32) : Int32 := (if p1 < p2 then p2 else p1)
def Q5 (Z : State) (p1 : Int32) (p2 : Int32) (h0 : Heap) (n0 : Nat) (v : Option Value) (h : Heap) (L : List Loc) : Prop := v = some (.int (f5 p1 p2)) ∧ Fr n0 L ∧ h = h0
set_option maxRecDepth 65536 in
set_option maxHeartbeats 40000000 in
theorem rm5 (l : Launch) (Z : State) (a0 : Array Value) (hw : ∀ d ∈ tables_1, d.before a0 Z = true) (ws : List Jvm.Cond) (p1 : Int32) (p2 : Int32) (h0 : Heap) (n0 : Nat) (Z0 : n0 ≤ h0.size) :
    MetFree l (⟨"java/lang/Math", "max", "(II)I"⟩ : MethodName) (head1 (Jvm.Cond.code (⟨"java/lang/Math", "max", "(II)I"⟩ : MethodName) jdk_29_method_65_code 2 (some .int) :: ws) ({ frames := 0, cells := 0, slots := 0, locals := 0 } : Room)) (fun a U => a = #[(.int p1), (.int p2)] ∧ Z.Warmed39 U.vm ∧ U.heap = h0) (fun _ _ _ _ _ => True) (fun _ U o U' => ∃ v L, o = .returned v ∧ Q5 Z p1 p2 h0 n0 v U'.heap L ∧ FrameEnd U o U' L ({ frames := 0, cells := 0, slots := 0, locals := 0 } : Room).cells ({ frames := 0, cells := 0, slots := 0, locals := 0 } : Room).slots) := by
  refine MetFree.of_bodySF (Jvm.Free.JP.mathPlain rfl (by decide +kernel)) hisR ?_
  intro p e s m args below meth c s₁ Bd hml0 hP hK
  obtain ⟨rfl, hZ, hh⟩ := hP
  have hx := Bd.exec
  have hby := Bd.bytes
  have hml : c.maxLocals = 2 := hml0
  have hown : s.vm.findClass "java/lang/Math" = some m.cls := findClass_of_methodNamed Bd.named
  have hnm := (name_of_methodNamed Bd.named Bd.method).1
  have X0 : Stand p l e ({ frames := 0, cells := 0, slots := 0, locals := 0 } : Room) s m #[(.int p1), (.int p2)] below meth c s₁ [] 0 0 := Stand.of_body Bd
  have e0 : s₁.heap = h0 := by rw [← hh, Bd.state]; rfl
  have N0 := Fr.nil n0
  have pre0 : ∀ t, Steps p.tables e below (s₁.setTop (mkF m 0 #[.val (.int p1), .val (.int p2)] [])) t → Steps p.tables e below (s₁.setTop (entryFrame m #[(.int p1), (.int p2)] 2)) t := fun t k => castTop (ef_5 m p1 p2) k
  have pre1 : ∀ t, Steps p.tables e below (s₁.setTop (mkF m 2 #[.val (.int p1), .val (.int p2)] [(.int p2), (.int p1)])) t → Steps p.tables e below (s₁.setTop (entryFrame m #[(.int p1), (.int p2)] 2)) t := by
    intro t k
    refine pre0 t ?_
    show Steps p.tables e below (s₁.setTop (mkF m 0 #[.val (.int p1), .val (.int p2)] [])) _
    refine XS.iloadN X0.here hx rfl (hb hby d5_0) rfl ?_
    show Steps p.tables e below (s₁.setTop (mkF m 1 #[.val (.int p1), .val (.int p2)] [(.int p1)])) _
    refine XS.iloadN X0.here hx rfl (hb hby d5_1) rfl ?_
    exact k
  by_cases hc2 : p1 < p2
  · have eq2 : (f5 p1 p2) = p2 := by unfold f5; simp only [if_pos hc2]
    obtain ⟨fs, hr, hrun, hended, hW, hsame⟩ := X0.leave (v := some (.int p2)) (fun h => by rw [Bd.returns] at h; cases h)
    refine ⟨_, _, pre1 _ ?_, hrun, hended, _, _, rfl, ?_, ⟨_, rfl⟩, hW, hsame.mono (by decide) (by decide)⟩
    · show Steps p.tables e below (s₁.setTop (mkF m 2 #[.val (.int p1), .val (.int p2)] [(.int p2), (.int p1)])) _
      refine XS.icmpYes X0.here hx rfl (pc0 := 2) (pc' := 9) rfl (hb hby d5_2) rfl (tlt hc2).1 (by decide) (by decide) ?_
      show Steps p.tables e below (s₁.setTop (mkF m 9 #[.val (.int p1), .val (.int p2)] [])) _
      refine XS.iloadN X0.here hx rfl (hb hby d5_9) rfl ?_
      show Steps p.tables e below (s₁.setTop (mkF m 10 #[.val (.int p1), .val (.int p2)] [(.int p2)])) _
      exact retI X0 hx Bd.returns (hb hby d5_10) hr
    · show Q5 Z p1 p2 h0 n0 _ s₁.heap _
      rw [e0]
      exact ⟨by rw [eq2], N0, rfl⟩
  · have eq3 : (f5 p1 p2) = p1 := by unfold f5; simp only [if_neg hc2]
    obtain ⟨fs, hr, hrun, hended, hW, hsame⟩ := X0.leave (v := some (.int p1)) (fun h => by rw [Bd.returns] at h; cases h)
    refine ⟨_, _, pre1 _ ?_, hrun, hended, _, _, rfl, ?_, ⟨_, rfl⟩, hW, hsame.mono (by decide) (by decide)⟩
    · show Steps p.tables e below (s₁.setTop (mkF m 2 #[.val (.int p1), .val (.int p2)] [(.int p2), (.int p1)])) _
      refine XS.icmpNo X0.here hx rfl (hb hby d5_2) rfl (flt hc2).1 ?_
      show Steps p.tables e below (s₁.setTop (mkF m 5 #[.val (.int p1), .val (.int p2)] [])) _
      refine XS.iloadN X0.here hx rfl (hb hby d5_5) rfl ?_
      show Steps p.tables e below (s₁.setTop (mkF m 6 #[.val (.int p1), .val (.int p2)] [(.int p1)])) _
      refine XS.goto X0.here hx rfl (pc0 := 6) (pc' := 10) rfl (hb hby d5_6) (by decide) (by decide) ?_
      show Steps p.tables e below (s₁.setTop (mkF m 10 #[.val (.int p1), .val (.int p2)] [(.int p1)])) _
      exact retI X0 hx Bd.returns (hb hby d5_10) hr
    · show Q5 Z p1 p2 h0 n0 _ s₁.heap _
      rw [e0]
      exact ⟨by rw [eq3], N0, rfl⟩
theorem d7_0 : decode jdk_29_method_69_code 0 = .ok (.iload_n 0, 1) := by decide +kernel
theorem d7_1 : decode jdk_29_method_69_code 1 = .ok (.iload_n 1, 1) := by decide +kernel
theorem d7_2 : decode jdk_29_method_69_code 2 = .ok (.if_icmp .gt 7, 3) := by decide +kernel
theorem d7_5 : decode jdk_29_method_69_code 5 = .ok (.iload_n 0, 1) := by decide +kernel
theorem d7_6 : decode jdk_29_method_69_code 6 = .ok (.goto 4, 3) := by decide +kernel
theorem d7_9 : decode jdk_29_method_69_code 9 = .ok (.iload_n 1, 1) := by decide +kernel
theorem d7_10 : decode jdk_29_method_69_code 10 = .ok (.ireturn, 1) := by decide +kernel
theorem ef_7 (m : MethodId) (x0 : Int32) (x1 : Int32) : entryFrame m #[(.int x0), (.int x1)] 2 = mkF m 0 #[.val (.int x0), .val (.int x1)] [] := by first | (simp [entryFrame, mkF, argsToLocals, Value.category]; done) | rfl
def f7 (p1 : Int32) (p2 : Int32) : Int32 := (if p2 < p1 then p2 else p1)
def Q7 (Z : State) (p1 : Int32) (p2 : Int32) (h0 : Heap) (n0 : Nat) (v : Option Value) (h : Heap) (L : List Loc) : Prop := v = some (.int (f7 p1 p2)) ∧ Fr n0 L ∧ h = h0
set_option maxRecDepth 65536 in
set_option maxHeartbeats 40000000 in
theorem rm7 (l : Launch) (Z : State) (a0 : Array Value) (hw : ∀ d ∈ tables_1, d.before a0 Z = true) (ws : List Jvm.Cond) (p1 : Int32) (p2 : Int32) (h0 : Heap) (n0 : Nat) (Z0 : n0 ≤ h0.size) :
    MetFree l (⟨"java/lang/Math", "min", "(II)I"⟩ : MethodName) (head1 (Jvm.Cond.code (⟨"java/lang/Math", "min", "(II)I"⟩ : MethodName) jdk_29_method_69_code 2 (some .int) :: ws) ({ frames := 0, cells := 0, slots := 0, locals := 0 } : Room)) (fun a U => a = #[(.int p1), (.int p2)] ∧ Z.Warmed39 U.vm ∧ U.heap = h0) (fun _ _ _ _ _ => True) (fun _ U o U' => ∃ v L, o = .returned v ∧ Q7 Z p1 p2 h0 n0 v U'.heap L ∧ FrameEnd U o U' L ({ frames := 0, cells := 0, slots := 0, locals := 0 } : Room).cells ({ frames := 0, cells := 0, slots := 0, locals := 0 } : Room).slots) := by
  refine MetFree.of_bodySF (Jvm.Free.JP.mathPlain rfl (by decide +kernel)) hisR ?_
  intro p e s m args below meth c s₁ Bd hml0 hP hK
  obtain ⟨rfl, hZ, hh⟩ := hP
  have hx := Bd.exec
  have hby := Bd.bytes
  have hml : c.maxLocals = 2 := hml0
  have hown : s.vm.findClass "java/lang/Math" = some m.cls := findClass_of_methodNamed Bd.named
  have hnm := (name_of_methodNamed Bd.named Bd.method).1
  have X0 : Stand p l e ({ frames := 0, cells := 0, slots := 0, locals := 0 } : Room) s m #[(.int p1), (.int p2)] below meth c s₁ [] 0 0 := Stand.of_body Bd
  have e0 : s₁.heap = h0 := by rw [← hh, Bd.state]; rfl
  have N0 := Fr.nil n0
  have pre0 : ∀ t, Steps p.tables e below (s₁.setTop (mkF m 0 #[.val (.int p1), .val (.int p2)] [])) t → Steps p.tables e below (s₁.setTop (entryFrame m #[(.int p1), (.int p2)] 2)) t := fun t k => castTop (ef_7 m p1 p2) k
  have pre1 : ∀ t, Steps p.tables e below (s₁.setTop (mkF m 2 #[.val (.int p1), .val (.int p2)] [(.int p2), (.int p1)])) t → Steps p.tables e below (s₁.setTop (entryFrame m #[(.int p1), (.int p2)] 2)) t := by
    intro t k
    refine pre0 t ?_
    show Steps p.tables e below (s₁.setTop (mkF m 0 #[.val (.int p1), .val (.int p2)] [])) _
    refine XS.iloadN X0.here hx rfl (hb hby d7_0) rfl ?_
    show Steps p.tables e below (s₁.setTop (mkF m 1 #[.val (.int p1), .val (.int p2)] [(.int p1)])) _
    refine XS.iloadN X0.here hx rfl (hb hby d7_1) rfl ?_
    exact k
  by_cases hc2 : p2 < p1
  · have eq2 : (f7 p1 p2) = p2 := by unfold f7; simp only [if_pos hc2]
    obtain ⟨fs, hr, hrun, hended, hW, hsame⟩ := X0.leave (v := some (.int p2)) (fun h => by rw [Bd.returns] at h; cases h)
    refine ⟨_, _, pre1 _ ?_, hrun, hended, _, _, rfl, ?_, ⟨_, rfl⟩, hW, hsame.mono (by decide) (by decide)⟩
    · show Steps p.tables e below (s₁.setTop (mkF m 2 #[.val (.int p1), .val (.int p2)] [(.int p2), (.int p1)])) _
      refine XS.icmpYes X0.here hx rfl (pc0 := 2) (pc' := 9) rfl (hb hby d7_2) rfl (tlt hc2).2.2.1 (by decide) (by decide) ?_
      show Steps p.tables e below (s₁.setTop (mkF m 9 #[.val (.int p1), .val (.int p2)] [])) _
      refine XS.iloadN X0.here hx rfl (hb hby d7_9) rfl ?_
      show Steps p.tables e below (s₁.setTop (mkF m 10 #[.val (.int p1), .val (.int p2)] [(.int p2)])) _
      exact retI X0 hx Bd.returns (hb hby d7_10) hr
    · show Q7 Z p1 p2 h0 n0 _ s₁.heap _
      rw [e0]
      exact ⟨by rw [eq2], N0, rfl⟩
  · have eq3 : (f7 p1 p2) = p1 := by unfold f7; simp only [if_neg hc2]
    obtain ⟨fs, hr, hrun, hended, hW, hsame⟩ := X0.leave (v := some (.int p1)) (fun h => by rw [Bd.returns] at h; cases h)
    refine ⟨_, _, pre1 _ ?_, hrun, hended, _, _, rfl, ?_, ⟨_, rfl⟩, hW, hsame.mono (by decide) (by decide)⟩
    · show Steps p.tables e below (s₁.setTop (mkF m 2 #[.val (.int p1), .val (.int p2)] [(.int p2), (.int p1)])) _
      refine XS.icmpNo X0.here hx rfl (hb hby d7_2) rfl (flt hc2).2.2.1 ?_
      show Steps p.tables e below (s₁.setTop (mkF m 5 #[.val (.int p1), .val (.int p2)] [])) _
      refine XS.iloadN X0.here hx rfl (hb hby d7_5) rfl ?_
      show Steps p.tables e below (s₁.setTop (mkF m 6 #[.val (.int p1), .val (.int p2)] [(.int p1)])) _
      refine XS.goto X0.here hx rfl (pc0 := 6) (pc' := 10) rfl (hb hby d7_6) (by decide) (by decide) ?_
      show Steps p.tables e below (s₁.setTop (mkF m 10 #[.val (.int p1), .val (.int p2)] [(.int p1)])) _
      exact retI X0 hx Bd.returns (hb hby d7_10) hr
    · show Q7 Z p1 p2 h0 n0 _ s₁.heap _
      rw [e0]
      exact ⟨by rw [eq3], N0, rfl⟩
theorem pd_0 : parseMethodDescriptor "(II)I" = some ⟨[.int, .int], some .int⟩ := by decide +kernel
theorem pn_0 : plainName "java/util/Arrays" = true := by first | (simp [plainName, overriddenIn]; done) | decide +kernel
theorem d6_0 : decode jdk_65_method_123_code 0 = .ok (.iload_n 1, 1) := by decide +kernel
theorem d6_1 : decode jdk_65_method_123_code 1 = .ok (.aload_n 0, 1) := by decide +kernel
theorem d6_2 : decode jdk_65_method_123_code 2 = .ok (.arraylength, 1) := by decide +kernel
theorem d6_3 : decode jdk_65_method_123_code 3 = .ok (.if_icmp .ne 11, 3) := by decide +kernel
theorem d6_14 : decode jdk_65_method_123_code 14 = .ok (.iload_n 1, 1) := by decide +kernel
theorem d6_15 : decode jdk_65_method_123_code 15 = .ok (.newarray .int, 2) := by decide +kernel
theorem d6_17 : decode jdk_65_method_123_code 17 = .ok (.astore_n 2, 1) := by decide +kernel
theorem d6_18 : decode jdk_65_method_123_code 18 = .ok (.aload_n 0, 1) := by decide +kernel
theorem d6_19 : decode jdk_65_method_123_code 19 = .ok (.iconst 0, 1) := by decide +kernel
theorem d6_20 : decode jdk_65_method_123_code 20 = .ok (.aload_n 2, 1) := by decide +kernel
theorem d6_21 : decode jdk_65_method_123_code 21 = .ok (.iconst 0, 1) := by decide +kernel
theorem d6_22 : decode jdk_65_method_123_code 22 = .ok (.aload_n 0, 1) := by decide +kernel
theorem d6_23 : decode jdk_65_method_123_code 23 = .ok (.arraylength, 1) := by decide +kernel
theorem d6_24 : decode jdk_65_method_123_code 24 = .ok (.iload_n 1, 1) := by decide +kernel
theorem d6_25 : decode jdk_65_method_123_code 25 = .ok (.invokestatic 304, 3) := by decide +kernel
theorem d6_28 : decode jdk_65_method_123_code 28 = .ok (.invokestatic 150, 3) := by decide +kernel
theorem d6_31 : decode jdk_65_method_123_code 31 = .ok (.aload_n 2, 1) := by decide +kernel
theorem d6_32 : decode jdk_65_method_123_code 32 = .ok (.areturn, 1) := by decide +kernel
theorem ef_6 (m : MethodId) (x0 : Addr) (x1 : Int32) : entryFrame m #[(.ref x0), (.int x1)] 3 = mkF m 0 #[.val (.ref x0), .val (.int x1), .unset] [] := by first | (simp [entryFrame, mkF, argsToLocals, Value.category]; done) | rfl
theorem own_min {z p : Int32} (hz : z = 0) (hp : p = 4) : f7 z p = 0 := by subst hz hp; decide
def f6_x0n (p2 : Int32) (z_a1 : Int32) (c_a1 : Nat → Int32) : Int32 := p2
def f6_x0c (p2 : Int32) (z_a1 : Int32) (c_a1 : Nat → Int32) : Nat → Int32 := (fun _ => 0)
def Q6 (Z : State) (a1 : Addr) (p2 : Int32) (z_a1 : Int32) (c_a1 : Nat → Int32) (h0 : Heap) (n0 : Nat) (v : Option Value) (h : Heap) (L : List Loc) : Prop := ∃ (r0 : Addr), v = some (.ref r0) ∧ Fr n0 L ∧ Keep h0 h [] ∧ h0.size ≤ r0 ∧ IAr Z h r0 .int (f6_x0n p2 z_a1 c_a1) (f6_x0c p2 z_a1 c_a1) ∧ Exa Z h r0 "[I"
set_option maxRecDepth 65536 in
set_option maxHeartbeats 40000000 in
theorem rm6 (l : Launch) (Z : State) (a0 : Array Value) (hw : ∀ d ∈ tables_1, d.before a0 Z = true) (ws : List Jvm.Cond) (a1 : Addr) (p2 : Int32) (z_a1 : Int32) (c_a1 : Nat → Int32) (h0 : Heap) (n0 : Nat) (Z0 : n0 ≤ h0.size) (V_a1 : IAr Z h0 a1 .int z_a1 c_a1) (hz : z_a1 = 0) (hp : p2 = 4) :
    MetFree l (⟨"java/util/Arrays", "copyOf", "([II)[I"⟩ : MethodName) (head1 (Jvm.Cond.code (⟨"java/util/Arrays", "copyOf", "([II)[I"⟩ : MethodName) jdk_65_method_123_code 3 (some (.array .int)) :: ws) ({ frames := 1, cells := 1, slots := 4, locals := 27 } : Room)) (fun a U => a = #[(.ref a1), (.int p2)] ∧ Z.Warmed39 U.vm ∧ U.heap = h0) (fun _ _ _ _ _ => True) (fun _ U o U' => ∃ v L, o = .returned v ∧ Q6 Z a1 p2 z_a1 c_a1 h0 n0 v U'.heap L ∧ FrameEnd U o U' L ({ frames := 1, cells := 1, slots := 4, locals := 27 } : Room).cells ({ frames := 1, cells := 1, slots := 4, locals := 27 } : Room).slots) := by
  refine MetFree.of_bodySF (plainFor_of_name pn_0) hisR ?_
  intro p e s m args below meth c s₁ Bd hml0 hP hK
  obtain ⟨rfl, hZ, hh⟩ := hP
  have hx := Bd.exec
  have hby := Bd.bytes
  have hml : c.maxLocals = 3 := hml0
  have hown : s.vm.findClass "java/util/Arrays" = some m.cls := findClass_of_methodNamed Bd.named
  have hnm := (name_of_methodNamed Bd.named Bd.method).1
  have X0 : Stand p l e ({ frames := 1, cells := 1, slots := 4, locals := 27 } : Room) s m #[(.ref a1), (.int p2)] below meth c s₁ [] 0 0 := Stand.of_body Bd
  have e0 : s₁.heap = h0 := by rw [← hh, Bd.state]; rfl
  have N0 := Fr.nil n0
  have pre0 : ∀ t, Steps p.tables e below (s₁.setTop (mkF m 0 #[.val (.ref a1), .val (.int p2), .unset] [])) t → Steps p.tables e below (s₁.setTop (entryFrame m #[(.ref a1), (.int p2)] 3)) t := fun t k => castTop (ef_6 m a1 p2) k
  obtain ⟨T3, h3, k3, X3, e3, E3, A3, EX3, st3⟩ := newPE X0 hx hZ (hw _ (List.mem_of_getElem? (i := 0) rfl)) e0 (g := (mkF m 15 #[.val (.ref a1), .val (.int p2), .unset] [(.int p2)])) rfl (hb hby d6_15) rfl (by rw [hp]; decide) (cap := 4) (by rw [hp]; decide) (by decide) (by decide) (by decide) (ad := "[I") (by decide)
  obtain ⟨b3, g3⟩ : ∃ z, z = h0.size := ⟨_, rfl⟩
  rw [← g3] at A3 EX3 st3
  have ne_a1_b3 : a1 ≠ b3 := Nat.ne_of_lt (Nat.lt_of_lt_of_le V_a1.lt (Nat.le_of_eq g3.symm))
  have g_b3 : n0 ≤ b3 := Nat.le_trans Z0 (Nat.le_of_eq g3.symm)
  have sz_b3 : h0.size ≤ b3 := Nat.le_trans (Keep.refl h0 []).1 (Nat.le_of_eq g3.symm)
  have c4 : n0 ≤ h3.size := Nat.le_trans Z0 E3.1
  have c5 : IAr Z h3 a1 .int z_a1 c_a1 := V_a1.ext E3
  have c6 : Keep h0 h3 [] := (Keep.refl h0 []).ext E3
  have c7 : IAr Z h3 b3 .int p2 (fun _ => 0) := IAr.new A3 (by rw [hp]; decide) rfl
  obtain ⟨_, _, ⟨T8, L8, k8, n8⟩, -, X8, ⟨Lc8, hQ8, l8, y8, z8⟩, st8⟩ := Jvm.LawKit.callS X3 hx (y := (⟨"java/lang/Math", "min", "(II)I"⟩ : MethodName)) hown (mvT hZ (hw _ (List.mem_of_getElem? (i := 37) rfl))) (mvT hZ (hw _ (List.mem_of_getElem? (i := 38) rfl))) (mvT hZ (hw _ (List.mem_of_getElem? (i := 31) rfl))) (mvT hZ (hw _ (List.mem_of_getElem? (i := 39) rfl))) (by decide) (backOf (W := 4) (rm7 l Z a0 hw [] z_a1 p2 h3 n0 c4 ) hZ (hw _ (List.mem_of_getElem? (i := 39) rfl)) (hw _ (List.mem_of_getElem? (i := 31) rfl)) (by decide) (by decide)) (g := (mkF m 25 #[.val (.ref a1), .val (.int p2), .val (.ref b3)] [(.int p2), (.int z_a1), (.int (0 : Int32)), (.ref b3), (.int (0 : Int32)), (.ref a1)])) rfl (by rw [hml]; rfl) (argsL := [(.int z_a1), (.int p2)]) (rest := [(.int (0 : Int32)), (.ref b3), (.int (0 : Int32)), (.ref a1)]) (lenOf pd_0 rfl) rfl (by show 2 * 0 + _ ≤ _; exact Nat.le_of_eq rfl) (hb hby d6_25) (fun _ _ => ⟨rfl, e3, (by decide : 1 + 0 ≤ _), (by decide : 4 + 0 ≤ _)⟩)
  dsimp only [Pt.U, Pt.locs, Pt.cells, Pt.slots] at X8 l8 y8 z8 st8 hQ8
  subst l8 y8 z8
  obtain ⟨rfl, N8q, e8⟩ := hQ8
  have N8 := Fr.app N0 N8q
  obtain ⟨T9, h9, L9, X9, e9, N9, K9, V9, st9⟩ := own_cp0 X8 hx hZ hown (hw _ (List.mem_of_getElem? (i := 40) rfl)) (hw _ (List.mem_of_getElem? (i := 43) rfl)) (hw _ (List.mem_of_getElem? (i := 41) rfl)) (hw _ (List.mem_of_getElem? (i := 42) rfl)) e8 c5 c7 (nn := (f7 z_a1 p2)) (own_min hz hp) N8 g_b3 (g := (mkF m 28 #[.val (.ref a1), .val (.int p2), .val (.ref b3)] [(.int (f7 z_a1 p2)), (.int (0 : Int32)), (.ref b3), (.int (0 : Int32)), (.ref a1)])) rfl (by rw [hml]; rfl) rfl (hb hby d6_28) (by decide) (W := 0) (by show 2 * 0 + _ ≤ _; exact Nat.le_of_eq rfl) (by decide)
  have c10 : n0 ≤ h9.size := Nat.le_trans c4 K9.1
  have c11 : IAr Z h9 a1 .int z_a1 c_a1 := c5.keep K9 (ninS ne_a1_b3 nin0)
  have c12 : Keep h0 h9 [] := c6.trans K9 (allS (Or.inr sz_b3) all0)
  have c13 : Exa Z h9 b3 "[I" := EX3.keep K9
  have c14 : IAr Z h9 b3 .int p2 (fun _ => 0) := V9
  have eq1 : (f6_x0n p2 z_a1 c_a1) = p2 := rfl
  have eq2 : (f6_x0c p2 z_a1 c_a1) = (fun _ => 0) := rfl
  obtain ⟨fs, hr, hrun, hended, hW, hsame⟩ := X9.leave (v := some (.ref b3)) (fun h => by rw [Bd.returns] at h; cases h)
  refine ⟨_, _, pre0 _ ?_, hrun, hended, _, _, rfl, ?_, ⟨_, rfl⟩, hW, hsame.mono (by decide) (by decide)⟩
  · show Steps p.tables e below (s₁.setTop (mkF m 0 #[.val (.ref a1), .val (.int p2), .unset] [])) _
    refine XS.iloadN X0.here hx rfl (hb hby d6_0) rfl ?_
    show Steps p.tables e below (s₁.setTop (mkF m 1 #[.val (.ref a1), .val (.int p2), .unset] [(.int p2)])) _
    refine XS.aloadN X0.here hx rfl (hb hby d6_1) rfl rfl ?_
    show Steps p.tables e below (s₁.setTop (mkF m 2 #[.val (.ref a1), .val (.int p2), .unset] [(.ref a1), (.int p2)])) _
    refine alen X0 hx hZ e0 V_a1 (g := (mkF m 2 #[.val (.ref a1), .val (.int p2), .unset] [(.ref a1), (.int p2)])) rfl rfl (hb hby d6_2) ?_
    show Steps p.tables e below (s₁.setTop (mkF m 3 #[.val (.ref a1), .val (.int p2), .unset] [(.int z_a1), (.int p2)])) _
    refine XS.icmpYes X0.here hx rfl (pc0 := 3) (pc' := 14) rfl (hb hby d6_3) rfl (feq (by rw [hp, hz]; decide : ¬ (p2 = z_a1))).2 (by decide) (by decide) ?_
    show Steps p.tables e below (s₁.setTop (mkF m 14 #[.val (.ref a1), .val (.int p2), .unset] [])) _
    refine XS.iloadN X0.here hx rfl (hb hby d6_14) rfl ?_
    show Steps p.tables e below (s₁.setTop (mkF m 15 #[.val (.ref a1), .val (.int p2), .unset] [(.int p2)])) _
    refine st3 _ ?_
    show Steps p.tables e below (T3.setTop (mkF m 17 #[.val (.ref a1), .val (.int p2), .unset] [(.ref b3)])) _
    refine XS.astoreN X3.here hx rfl (hb hby d6_17) rfl rfl (l' := #[.val (.ref a1), .val (.int p2), .val (.ref b3)]) rfl ?_
    show Steps p.tables e below (T3.setTop (mkF m 18 #[.val (.ref a1), .val (.int p2), .val (.ref b3)] [])) _
    refine XS.aloadN X3.here hx rfl (hb hby d6_18) rfl rfl ?_
    show Steps p.tables e below (T3.setTop (mkF m 19 #[.val (.ref a1), .val (.int p2), .val (.ref b3)] [(.ref a1)])) _
    refine XS.iconst X3.here hx rfl (hb hby d6_19) ?_
    show Steps p.tables e below (T3.setTop (mkF m 20 #[.val (.ref a1), .val (.int p2), .val (.ref b3)] [(.int (0 : Int32)), (.ref a1)])) _
    refine XS.aloadN X3.here hx rfl (hb hby d6_20) rfl rfl ?_
    show Steps p.tables e below (T3.setTop (mkF m 21 #[.val (.ref a1), .val (.int p2), .val (.ref b3)] [(.ref b3), (.int (0 : Int32)), (.ref a1)])) _
    refine XS.iconst X3.here hx rfl (hb hby d6_21) ?_
    show Steps p.tables e below (T3.setTop (mkF m 22 #[.val (.ref a1), .val (.int p2), .val (.ref b3)] [(.int (0 : Int32)), (.ref b3), (.int (0 : Int32)), (.ref a1)])) _
    refine XS.aloadN X3.here hx rfl (hb hby d6_22) rfl rfl ?_
    show Steps p.tables e below (T3.setTop (mkF m 23 #[.val (.ref a1), .val (.int p2), .val (.ref b3)] [(.ref a1), (.int (0 : Int32)), (.ref b3), (.int (0 : Int32)), (.ref a1)])) _
    refine alen X3 hx hZ e3 c5 (g := (mkF m 23 #[.val (.ref a1), .val (.int p2), .val (.ref b3)] [(.ref a1), (.int (0 : Int32)), (.ref b3), (.int (0 : Int32)), (.ref a1)])) rfl rfl (hb hby d6_23) ?_
    show Steps p.tables e below (T3.setTop (mkF m 24 #[.val (.ref a1), .val (.int p2), .val (.ref b3)] [(.int z_a1), (.int (0 : Int32)), (.ref b3), (.int (0 : Int32)), (.ref a1)])) _
    refine XS.iloadN X3.here hx rfl (hb hby d6_24) rfl ?_
    show Steps p.tables e below (T3.setTop (mkF m 25 #[.val (.ref a1), .val (.int p2), .val (.ref b3)] [(.int p2), (.int z_a1), (.int (0 : Int32)), (.ref b3), (.int (0 : Int32)), (.ref a1)])) _
    refine st8 _ ?_
    show Steps p.tables e below (T8.setTop (mkF m 28 #[.val (.ref a1), .val (.int p2), .val (.ref b3)] [(.int (f7 z_a1 p2)), (.int (0 : Int32)), (.ref b3), (.int (0 : Int32)), (.ref a1)])) _
    refine st9 _ ?_
    show Steps p.tables e below (T9.setTop (mkF m 31 #[.val (.ref a1), .val (.int p2), .val (.ref b3)] [])) _
    refine XS.aloadN X9.here hx rfl (hb hby d6_31) rfl rfl ?_
    show Steps p.tables e below (T9.setTop (mkF m 32 #[.val (.ref a1), .val (.int p2), .val (.ref b3)] [(.ref b3)])) _
    jvm_step X9.here [X9.here.top, hx, (hb hby d6_32), X9.method', Bd.returns, Value.isRef, FieldType.isReference]
    first | (intro acts; rw [hr _ acts rfl rfl rfl]) | rw [hr _ _ rfl rfl rfl]
    exact Steps.refl _
  · show Q6 Z a1 p2 z_a1 c_a1 h0 n0 _ T9.heap _
    rw [e9]
    exact ⟨b3, rfl, N9, c12, sz_b3, (by rw [eq1, eq2]; exact c14), c13⟩
theorem pn_1 : plainName "com/example/podflow/podflow/simulation/Arrivals" = true := by first | (simp [plainName, overriddenIn]; done) | decide +kernel
theorem d8_0 : decode prog_55_method_8_code 0 = .ok (.aload_n 0, 1) := by decide +kernel
theorem d8_1 : decode prog_55_method_8_code 1 = .ok (.getfield 13, 3) := by decide +kernel
theorem d8_4 : decode prog_55_method_8_code 4 = .ok (.iload_n 1, 1) := by decide +kernel
theorem d8_5 : decode prog_55_method_8_code 5 = .ok (.laload, 1) := by decide +kernel
theorem d8_6 : decode prog_55_method_8_code 6 = .ok (.aload_n 0, 1) := by decide +kernel
theorem d8_7 : decode prog_55_method_8_code 7 = .ok (.getfield 13, 3) := by decide +kernel
theorem d8_10 : decode prog_55_method_8_code 10 = .ok (.iload_n 2, 1) := by decide +kernel
theorem d8_11 : decode prog_55_method_8_code 11 = .ok (.laload, 1) := by decide +kernel
theorem d8_12 : decode prog_55_method_8_code 12 = .ok (.lcmp, 1) := by decide +kernel
theorem d8_13 : decode prog_55_method_8_code 13 = .ok (.ifCond .eq 27, 3) := by decide +kernel
theorem d8_16 : decode prog_55_method_8_code 16 = .ok (.aload_n 0, 1) := by decide +kernel
theorem d8_17 : decode prog_55_method_8_code 17 = .ok (.getfield 13, 3) := by decide +kernel
theorem d8_20 : decode prog_55_method_8_code 20 = .ok (.iload_n 1, 1) := by decide +kernel
theorem d8_21 : decode prog_55_method_8_code 21 = .ok (.laload, 1) := by decide +kernel
theorem d8_22 : decode prog_55_method_8_code 22 = .ok (.aload_n 0, 1) := by decide +kernel
theorem d8_23 : decode prog_55_method_8_code 23 = .ok (.getfield 13, 3) := by decide +kernel
theorem d8_26 : decode prog_55_method_8_code 26 = .ok (.iload_n 2, 1) := by decide +kernel
theorem d8_27 : decode prog_55_method_8_code 27 = .ok (.laload, 1) := by decide +kernel
theorem d8_28 : decode prog_55_method_8_code 28 = .ok (.lcmp, 1) := by decide +kernel
theorem d8_29 : decode prog_55_method_8_code 29 = .ok (.ifCond .le 7, 3) := by decide +kernel
theorem d8_32 : decode prog_55_method_8_code 32 = .ok (.iconst 1, 1) := by decide +kernel
theorem d8_33 : decode prog_55_method_8_code 33 = .ok (.goto 17, 3) := by decide +kernel
theorem d8_36 : decode prog_55_method_8_code 36 = .ok (.iconst 0, 1) := by decide +kernel
theorem d8_37 : decode prog_55_method_8_code 37 = .ok (.goto 13, 3) := by decide +kernel
theorem d8_40 : decode prog_55_method_8_code 40 = .ok (.iload_n 1, 1) := by decide +kernel
theorem d8_41 : decode prog_55_method_8_code 41 = .ok (.iload_n 2, 1) := by decide +kernel
theorem d8_42 : decode prog_55_method_8_code 42 = .ok (.if_icmp .le 7, 3) := by decide +kernel
theorem d8_45 : decode prog_55_method_8_code 45 = .ok (.iconst 1, 1) := by decide +kernel
theorem d8_46 : decode prog_55_method_8_code 46 = .ok (.goto 4, 3) := by decide +kernel
theorem d8_49 : decode prog_55_method_8_code 49 = .ok (.iconst 0, 1) := by decide +kernel
theorem d8_50 : decode prog_55_method_8_code 50 = .ok (.ireturn, 1) := by decide +kernel
theorem ef_8 (m : MethodId) (x0 : Addr) (x1 : Int32) (x2 : Int32) : entryFrame m #[(.ref x0), (.int x1), (.int x2)] 3 = mkF m 0 #[.val (.ref x0), .val (.int x1), .val (.int x2)] [] := by first | (simp [entryFrame, mkF, argsToLocals, Value.category]; done) | rfl
def f8 (p2 : Int32) (p3 : Int32) (z_w_ar : Int32) (c_w_ar : Nat → Int64) : Int32 := (if (c_w_ar (p2).toNatClampNeg) = (c_w_ar (p3).toNatClampNeg) then (if p3 < p2 then (1 : Int32) else (0 : Int32)) else (if (c_w_ar (p3).toNatClampNeg) < (c_w_ar (p2).toNatClampNeg) then (1 : Int32) else (0 : Int32)))
def Q8 (Z : State) (a1 : Addr) (p2 : Int32) (p3 : Int32) (w_ar : Addr) (z_w_ar : Int32) (c_w_ar : Nat → Int64) (h0 : Heap) (n0 : Nat) (v : Option Value) (h : Heap) (L : List Loc) : Prop := v = some (.int (f8 p2 p3 z_w_ar c_w_ar)) ∧ Fr n0 L ∧ h = h0
set_option maxRecDepth 65536 in
set_option maxHeartbeats 40000000 in
theorem rm8 (l : Launch) (Z : State) (a0 : Array Value) (hw : ∀ d ∈ tables_1, d.before a0 Z = true) (ws : List Jvm.Cond) (a1 : Addr) (p2 : Int32) (p3 : Int32) (w_ar : Addr) (z_w_ar : Int32) (c_w_ar : Nat → Int64) (h0 : Heap) (n0 : Nat) (Z0 : n0 ≤ h0.size) (F_arrival_a1 : Fld Z h0 a1 "com/example/podflow/podflow/simulation/Arrivals" "arrival" "[J" (.ref w_ar)) (V_w_ar : LAr Z h0 w_ar  z_w_ar c_w_ar) (hi : 0 ≤ p2.toInt ∧ p2.toInt < 3) (hj : 0 ≤ p3.toInt ∧ p3.toInt < 3) (hz : z_w_ar = 3) :
    MetFree l (⟨"com/example/podflow/podflow/simulation/Arrivals", "comesAfter", "(II)Z"⟩ : MethodName) (head1 (Jvm.Cond.code (⟨"com/example/podflow/podflow/simulation/Arrivals", "comesAfter", "(II)Z"⟩ : MethodName) prog_55_method_8_code 3 (some .boolean) :: ws) ({ frames := 0, cells := 0, slots := 0, locals := 0 } : Room)) (fun a U => a = #[(.ref a1), (.int p2), (.int p3)] ∧ Z.Warmed39 U.vm ∧ U.heap = h0) (fun _ _ _ _ _ => True) (fun _ U o U' => ∃ v L, o = .returned v ∧ Q8 Z a1 p2 p3 w_ar z_w_ar c_w_ar h0 n0 v U'.heap L ∧ FrameEnd U o U' L ({ frames := 0, cells := 0, slots := 0, locals := 0 } : Room).cells ({ frames := 0, cells := 0, slots := 0, locals := 0 } : Room).slots) := by
  refine MetFree.of_bodySF (plainFor_of_name pn_1) hisR ?_
  intro p e s m args below meth c s₁ Bd hml0 hP hK
  obtain ⟨rfl, hZ, hh⟩ := hP
  have hx := Bd.exec
  have hby := Bd.bytes
  have hml : c.maxLocals = 3 := hml0
  have hown : s.vm.findClass "com/example/podflow/podflow/simulation/Arrivals" = some m.cls := findClass_of_methodNamed Bd.named
  have hnm := (name_of_methodNamed Bd.named Bd.method).1
  have X0 : Stand p l e ({ frames := 0, cells := 0, slots := 0, locals := 0 } : Room) s m #[(.ref a1), (.int p2), (.int p3)] below meth c s₁ [] 0 0 := Stand.of_body Bd
  have e0 : s₁.heap = h0 := by rw [← hh, Bd.state]; rfl
  have N0 := Fr.nil n0
  have pre0 : ∀ t, Steps p.tables e below (s₁.setTop (mkF m 0 #[.val (.ref a1), .val (.int p2), .val (.int p3)] [])) t → Steps p.tables e below (s₁.setTop (entryFrame m #[(.ref a1), (.int p2), (.int p3)] 3)) t := fun t k => castTop (ef_8 m a1 p2 p3) k
  obtain ⟨T4, X4, e4, st4⟩ := getF X0 hx hZ hown (host := "") (Or.inl (hw _ (List.mem_of_getElem? (i := 18) rfl))) Via.refl e0 F_arrival_a1 (g := (mkF m 1 #[.val (.ref a1), .val (.int p2), .val (.int p3)] [(.ref a1)])) rfl rfl (hb hby d8_1)
  obtain ⟨T5, X5, e5, st5⟩ := getF X4 hx hZ hown (host := "") (Or.inl (hw _ (List.mem_of_getElem? (i := 18) rfl))) Via.refl e4 F_arrival_a1 (g := (mkF m 7 #[.val (.ref a1), .val (.int p2), .val (.int p3)] [(.ref a1), (.long (c_w_ar (p2).toNatClampNeg))])) rfl rfl (hb hby d8_7)
  have pre1 : ∀ t, Steps p.tables e below (T5.setTop (mkF m 13 #[.val (.ref a1), .val (.int p2), .val (.int p3)] [(.int (lcmpW (c_w_ar (p2).toNatClampNeg) (c_w_ar (p3).toNatClampNeg)))])) t → Steps p.tables e below (s₁.setTop (entryFrame m #[(.ref a1), (.int p2), (.int p3)] 3)) t := by
    intro t k
    refine pre0 t ?_
    show Steps p.tables e below (s₁.setTop (mkF m 0 #[.val (.ref a1), .val (.int p2), .val (.int p3)] [])) _
    refine XS.aloadN X0.here hx rfl (hb hby d8_0) rfl rfl ?_
    show Steps p.tables e below (s₁.setTop (mkF m 1 #[.val (.ref a1), .val (.int p2), .val (.int p3)] [(.ref a1)])) _
    refine st4 _ ?_
    show Steps p.tables e below (T4.setTop (mkF m 4 #[.val (.ref a1), .val (.int p2), .val (.int p3)] [(.ref w_ar)])) _
    refine XS.iloadN X4.here hx rfl (hb hby d8_4) rfl ?_
    show Steps p.tables e below (T4.setTop (mkF m 5 #[.val (.ref a1), .val (.int p2), .val (.int p3)] [(.int p2), (.ref w_ar)])) _
    refine ldJ X4 hx hZ e4 V_w_ar (j := p2) (own_i3 hi hz) (g := (mkF m 5 #[.val (.ref a1), .val (.int p2), .val (.int p3)] [(.int p2), (.ref w_ar)])) rfl rfl (hb hby d8_5) ?_
    show Steps p.tables e below (T4.setTop (mkF m 6 #[.val (.ref a1), .val (.int p2), .val (.int p3)] [(.long (c_w_ar (p2).toNatClampNeg))])) _
    refine XS.aloadN X4.here hx rfl (hb hby d8_6) rfl rfl ?_
    show Steps p.tables e below (T4.setTop (mkF m 7 #[.val (.ref a1), .val (.int p2), .val (.int p3)] [(.ref a1), (.long (c_w_ar (p2).toNatClampNeg))])) _
    refine st5 _ ?_
    show Steps p.tables e below (T5.setTop (mkF m 10 #[.val (.ref a1), .val (.int p2), .val (.int p3)] [(.ref w_ar), (.long (c_w_ar (p2).toNatClampNeg))])) _
    refine XS.iloadN X5.here hx rfl (hb hby d8_10) rfl ?_
    show Steps p.tables e below (T5.setTop (mkF m 11 #[.val (.ref a1), .val (.int p2), .val (.int p3)] [(.int p3), (.ref w_ar), (.long (c_w_ar (p2).toNatClampNeg))])) _
    refine ldJ X5 hx hZ e5 V_w_ar (j := p3) (own_i3 hj hz) (g := (mkF m 11 #[.val (.ref a1), .val (.int p2), .val (.int p3)] [(.int p3), (.ref w_ar), (.long (c_w_ar (p2).toNatClampNeg))])) rfl rfl (hb hby d8_11) ?_
    show Steps p.tables e below (T5.setTop (mkF m 12 #[.val (.ref a1), .val (.int p2), .val (.int p3)] [(.long (c_w_ar (p3).toNatClampNeg)), (.long (c_w_ar (p2).toNatClampNeg))])) _
    refine XS.lcmp X5.here hx rfl (hb hby d8_12) rfl ?_
    exact k
  by_cases hc13 : (c_w_ar (p2).toNatClampNeg) = (c_w_ar (p3).toNatClampNeg)
  · have pre2 : ∀ t, Steps p.tables e below (T5.setTop (mkF m 42 #[.val (.ref a1), .val (.int p2), .val (.int p3)] [(.int p3), (.int p2)])) t → Steps p.tables e below (s₁.setTop (entryFrame m #[(.ref a1), (.int p2), (.int p3)] 3)) t := by
      intro t k
      refine pre1 t ?_
      show Steps p.tables e below (T5.setTop (mkF m 13 #[.val (.ref a1), .val (.int p2), .val (.int p3)] [(.int (lcmpW (c_w_ar (p2).toNatClampNeg) (c_w_ar (p3).toNatClampNeg)))])) _
      refine XS.ifYes X5.here hx rfl (pc0 := 13) (pc' := 40) rfl (hb hby d8_13) rfl ((if0 _ _).trans (teq ((lw_eq _ _).mpr hc13)).1) (by decide) (by decide) ?_
      show Steps p.tables e below (T5.setTop (mkF m 40 #[.val (.ref a1), .val (.int p2), .val (.int p3)] [])) _
      refine XS.iloadN X5.here hx rfl (hb hby d8_40) rfl ?_
      show Steps p.tables e below (T5.setTop (mkF m 41 #[.val (.ref a1), .val (.int p2), .val (.int p3)] [(.int p2)])) _
      refine XS.iloadN X5.here hx rfl (hb hby d8_41) rfl ?_
      exact k
    by_cases hc42 : p3 < p2
    · have eq3 : (f8 p2 p3 z_w_ar c_w_ar) = (1 : Int32) := by unfold f8; simp only [if_pos hc13, if_pos hc42]
      obtain ⟨fs, hr, hrun, hended, hW, hsame⟩ := X5.leave (v := some (.int (1 : Int32))) (fun h => by rw [Bd.returns] at h; cases h)
      refine ⟨_, _, pre2 _ ?_, hrun, hended, _, _, rfl, ?_, ⟨_, rfl⟩, hW, hsame.mono (by decide) (by decide)⟩
      · show Steps p.tables e below (T5.setTop (mkF m 42 #[.val (.ref a1), .val (.int p2), .val (.int p3)] [(.int p3), (.int p2)])) _
        refine XS.icmpNo X5.here hx rfl (hb hby d8_42) rfl (tlt hc42).2.2.2 ?_
        show Steps p.tables e below (T5.setTop (mkF m 45 #[.val (.ref a1), .val (.int p2), .val (.int p3)] [])) _
        refine XS.iconst X5.here hx rfl (hb hby d8_45) ?_
        show Steps p.tables e below (T5.setTop (mkF m 46 #[.val (.ref a1), .val (.int p2), .val (.int p3)] [(.int (1 : Int32))])) _
        refine XS.goto X5.here hx rfl (pc0 := 46) (pc' := 50) rfl (hb hby d8_46) (by decide) (by decide) ?_
        show Steps p.tables e below (T5.setTop (mkF m 50 #[.val (.ref a1), .val (.int p2), .val (.int p3)] [(.int (1 : Int32))])) _
        exact retN X5 hx (t := .boolean) Bd.returns (by simp) (hb hby d8_50) hr
      · show Q8 Z a1 p2 p3 w_ar z_w_ar c_w_ar h0 n0 _ T5.heap _
        rw [e5]
        exact ⟨by rw [eq3], N0, rfl⟩
    · have eq4 : (f8 p2 p3 z_w_ar c_w_ar) = (0 : Int32) := by unfold f8; simp only [if_pos hc13, if_neg hc42]
      obtain ⟨fs, hr, hrun, hended, hW, hsame⟩ := X5.leave (v := some (.int (0 : Int32))) (fun h => by rw [Bd.returns] at h; cases h)
      refine ⟨_, _, pre2 _ ?_, hrun, hended, _, _, rfl, ?_, ⟨_, rfl⟩, hW, hsame.mono (by decide) (by decide)⟩
      · show Steps p.tables e below (T5.setTop (mkF m 42 #[.val (.ref a1), .val (.int p2), .val (.int p3)] [(.int p3), (.int p2)])) _
        refine XS.icmpYes X5.here hx rfl (pc0 := 42) (pc' := 49) rfl (hb hby d8_42) rfl (flt hc42).2.2.2 (by decide) (by decide) ?_
        show Steps p.tables e below (T5.setTop (mkF m 49 #[.val (.ref a1), .val (.int p2), .val (.int p3)] [])) _
        refine XS.iconst X5.here hx rfl (hb hby d8_49) ?_
        show Steps p.tables e below (T5.setTop (mkF m 50 #[.val (.ref a1), .val (.int p2), .val (.int p3)] [(.int (0 : Int32))])) _
        exact retN X5 hx (t := .boolean) Bd.returns (by simp) (hb hby d8_50) hr
      · show Q8 Z a1 p2 p3 w_ar z_w_ar c_w_ar h0 n0 _ T5.heap _
        rw [e5]
        exact ⟨by rw [eq4], N0, rfl⟩
  · obtain ⟨T6, X6, e6, st6⟩ := getF X5 hx hZ hown (host := "") (Or.inl (hw _ (List.mem_of_getElem? (i := 18) rfl))) Via.refl e5 F_arrival_a1 (g := (mkF m 17 #[.val (.ref a1), .val (.int p2), .val (.int p3)] [(.ref a1)])) rfl rfl (hb hby d8_17)
    obtain ⟨T7, X7, e7, st7⟩ := getF X6 hx hZ hown (host := "") (Or.inl (hw _ (List.mem_of_getElem? (i := 18) rfl))) Via.refl e6 F_arrival_a1 (g := (mkF m 23 #[.val (.ref a1), .val (.int p2), .val (.int p3)] [(.ref a1), (.long (c_w_ar (p2).toNatClampNeg))])) rfl rfl (hb hby d8_23)
    have pre5 : ∀ t, Steps p.tables e below (T7.setTop (mkF m 29 #[.val (.ref a1), .val (.int p2), .val (.int p3)] [(.int (lcmpW (c_w_ar (p2).toNatClampNeg) (c_w_ar (p3).toNatClampNeg)))])) t → Steps p.tables e below (s₁.setTop (entryFrame m #[(.ref a1), (.int p2), (.int p3)] 3)) t := by
      intro t k
      refine pre1 t ?_
      show Steps p.tables e below (T5.setTop (mkF m 13 #[.val (.ref a1), .val (.int p2), .val (.int p3)] [(.int (lcmpW (c_w_ar (p2).toNatClampNeg) (c_w_ar (p3).toNatClampNeg)))])) _
      refine XS.ifNo X5.here hx rfl (hb hby d8_13) rfl ((if0 _ _).trans (feq (fun q => hc13 ((lw_eq _ _).mp q))).1) ?_
      show Steps p.tables e below (T5.setTop (mkF m 16 #[.val (.ref a1), .val (.int p2), .val (.int p3)] [])) _
      refine XS.aloadN X5.here hx rfl (hb hby d8_16) rfl rfl ?_
      show Steps p.tables e below (T5.setTop (mkF m 17 #[.val (.ref a1), .val (.int p2), .val (.int p3)] [(.ref a1)])) _
      refine st6 _ ?_
      show Steps p.tables e below (T6.setTop (mkF m 20 #[.val (.ref a1), .val (.int p2), .val (.int p3)] [(.ref w_ar)])) _
      refine XS.iloadN X6.here hx rfl (hb hby d8_20) rfl ?_
      show Steps p.tables e below (T6.setTop (mkF m 21 #[.val (.ref a1), .val (.int p2), .val (.int p3)] [(.int p2), (.ref w_ar)])) _
      refine ldJ X6 hx hZ e6 V_w_ar (j := p2) (own_i3 hi hz) (g := (mkF m 21 #[.val (.ref a1), .val (.int p2), .val (.int p3)] [(.int p2), (.ref w_ar)])) rfl rfl (hb hby d8_21) ?_
      show Steps p.tables e below (T6.setTop (mkF m 22 #[.val (.ref a1), .val (.int p2), .val (.int p3)] [(.long (c_w_ar (p2).toNatClampNeg))])) _
      refine XS.aloadN X6.here hx rfl (hb hby d8_22) rfl rfl ?_
      show Steps p.tables e below (T6.setTop (mkF m 23 #[.val (.ref a1), .val (.int p2), .val (.int p3)] [(.ref a1), (.long (c_w_ar (p2).toNatClampNeg))])) _
      refine st7 _ ?_
      show Steps p.tables e below (T7.setTop (mkF m 26 #[.val (.ref a1), .val (.int p2), .val (.int p3)] [(.ref w_ar), (.long (c_w_ar (p2).toNatClampNeg))])) _
      refine XS.iloadN X7.here hx rfl (hb hby d8_26) rfl ?_
      show Steps p.tables e below (T7.setTop (mkF m 27 #[.val (.ref a1), .val (.int p2), .val (.int p3)] [(.int p3), (.ref w_ar), (.long (c_w_ar (p2).toNatClampNeg))])) _
      refine ldJ X7 hx hZ e7 V_w_ar (j := p3) (own_i3 hj hz) (g := (mkF m 27 #[.val (.ref a1), .val (.int p2), .val (.int p3)] [(.int p3), (.ref w_ar), (.long (c_w_ar (p2).toNatClampNeg))])) rfl rfl (hb hby d8_27) ?_
      show Steps p.tables e below (T7.setTop (mkF m 28 #[.val (.ref a1), .val (.int p2), .val (.int p3)] [(.long (c_w_ar (p3).toNatClampNeg)), (.long (c_w_ar (p2).toNatClampNeg))])) _
      refine XS.lcmp X7.here hx rfl (hb hby d8_28) rfl ?_
      exact k
    by_cases hc29 : (c_w_ar (p3).toNatClampNeg) < (c_w_ar (p2).toNatClampNeg)
    · have eq6 : (f8 p2 p3 z_w_ar c_w_ar) = (1 : Int32) := by unfold f8; simp only [if_neg hc13, if_pos hc29]
      obtain ⟨fs, hr, hrun, hended, hW, hsame⟩ := X7.leave (v := some (.int (1 : Int32))) (fun h => by rw [Bd.returns] at h; cases h)
      refine ⟨_, _, pre5 _ ?_, hrun, hended, _, _, rfl, ?_, ⟨_, rfl⟩, hW, hsame.mono (by decide) (by decide)⟩
      · show Steps p.tables e below (T7.setTop (mkF m 29 #[.val (.ref a1), .val (.int p2), .val (.int p3)] [(.int (lcmpW (c_w_ar (p2).toNatClampNeg) (c_w_ar (p3).toNatClampNeg)))])) _
        refine XS.ifNo X7.here hx rfl (hb hby d8_29) rfl ((if0 _ _).trans (tlt ((lw_gt _ _).mpr hc29)).2.2.2) ?_
        show Steps p.tables e below (T7.setTop (mkF m 32 #[.val (.ref a1), .val (.int p2), .val (.int p3)] [])) _
        refine XS.iconst X7.here hx rfl (hb hby d8_32) ?_
        show Steps p.tables e below (T7.setTop (mkF m 33 #[.val (.ref a1), .val (.int p2), .val (.int p3)] [(.int (1 : Int32))])) _
        refine XS.goto X7.here hx rfl (pc0 := 33) (pc' := 50) rfl (hb hby d8_33) (by decide) (by decide) ?_
        show Steps p.tables e below (T7.setTop (mkF m 50 #[.val (.ref a1), .val (.int p2), .val (.int p3)] [(.int (1 : Int32))])) _
        exact retN X7 hx (t := .boolean) Bd.returns (by simp) (hb hby d8_50) hr
      · show Q8 Z a1 p2 p3 w_ar z_w_ar c_w_ar h0 n0 _ T7.heap _
        rw [e7]
        exact ⟨by rw [eq6], N0, rfl⟩
    · have eq7 : (f8 p2 p3 z_w_ar c_w_ar) = (0 : Int32) := by unfold f8; simp only [if_neg hc13, if_neg hc29]
      obtain ⟨fs, hr, hrun, hended, hW, hsame⟩ := X7.leave (v := some (.int (0 : Int32))) (fun h => by rw [Bd.returns] at h; cases h)
      refine ⟨_, _, pre5 _ ?_, hrun, hended, _, _, rfl, ?_, ⟨_, rfl⟩, hW, hsame.mono (by decide) (by decide)⟩
      · show Steps p.tables e below (T7.setTop (mkF m 29 #[.val (.ref a1), .val (.int p2), .val (.int p3)] [(.int (lcmpW (c_w_ar (p2).toNatClampNeg) (c_w_ar (p3).toNatClampNeg)))])) _
        refine XS.ifYes X7.here hx rfl (pc0 := 29) (pc' := 36) rfl (hb hby d8_29) rfl ((if0 _ _).trans (flt (fun q => hc29 ((lw_gt _ _).mp q))).2.2.2) (by decide) (by decide) ?_
        show Steps p.tables e below (T7.setTop (mkF m 36 #[.val (.ref a1), .val (.int p2), .val (.int p3)] [])) _
        refine XS.iconst X7.here hx rfl (hb hby d8_36) ?_
        show Steps p.tables e below (T7.setTop (mkF m 37 #[.val (.ref a1), .val (.int p2), .val (.int p3)] [(.int (0 : Int32))])) _
        refine XS.goto X7.here hx rfl (pc0 := 37) (pc' := 50) rfl (hb hby d8_37) (by decide) (by decide) ?_
        show Steps p.tables e below (T7.setTop (mkF m 50 #[.val (.ref a1), .val (.int p2), .val (.int p3)] [(.int (0 : Int32))])) _
        exact retN X7 hx (t := .boolean) Bd.returns (by simp) (hb hby d8_50) hr
      · show Q8 Z a1 p2 p3 w_ar z_w_ar c_w_ar h0 n0 _ T7.heap _
        rw [e7]
        exact ⟨by rw [eq7], N0, rfl⟩
theorem pd_1 : parseMethodDescriptor "([II)[I" = some ⟨[(.array .int), .int], some (.array .int)⟩ := by decide +kernel
theorem pd_2 : parseMethodDescriptor "(II)Z" = some ⟨[.int, .int], some .boolean⟩ := by decide +kernel
theorem d4_0 : decode prog_55_method_6_code 0 = .ok (.aload_n 0, 1) := by decide +kernel
theorem d4_1 : decode prog_55_method_6_code 1 = .ok (.getfield 7, 3) := by decide +kernel
theorem d4_4 : decode prog_55_method_6_code 4 = .ok (.iload_n 1, 1) := by decide +kernel
theorem d4_5 : decode prog_55_method_6_code 5 = .ok (.iaload, 1) := by decide +kernel
theorem d4_6 : decode prog_55_method_6_code 6 = .ok (.istore_n 2, 1) := by decide +kernel
theorem d4_7 : decode prog_55_method_6_code 7 = .ok (.aload_n 0, 1) := by decide +kernel
theorem d4_8 : decode prog_55_method_6_code 8 = .ok (.getfield 21, 3) := by decide +kernel
theorem d4_11 : decode prog_55_method_6_code 11 = .ok (.iload_n 2, 1) := by decide +kernel
theorem d4_12 : decode prog_55_method_6_code 12 = .ok (.iaload, 1) := by decide +kernel
theorem d4_13 : decode prog_55_method_6_code 13 = .ok (.istore_n 3, 1) := by decide +kernel
theorem d4_14 : decode prog_55_method_6_code 14 = .ok (.iload_n 3, 1) := by decide +kernel
theorem d4_15 : decode prog_55_method_6_code 15 = .ok (.aload_n 0, 1) := by decide +kernel
theorem d4_16 : decode prog_55_method_6_code 16 = .ok (.getfield 17, 3) := by decide +kernel
theorem d4_19 : decode prog_55_method_6_code 19 = .ok (.iload_n 2, 1) := by decide +kernel
theorem d4_20 : decode prog_55_method_6_code 20 = .ok (.aaload, 1) := by decide +kernel
theorem d4_21 : decode prog_55_method_6_code 21 = .ok (.arraylength, 1) := by decide +kernel
theorem d4_22 : decode prog_55_method_6_code 22 = .ok (.if_icmp .ne 25, 3) := by decide +kernel
theorem d4_25 : decode prog_55_method_6_code 25 = .ok (.aload_n 0, 1) := by decide +kernel
theorem d4_26 : decode prog_55_method_6_code 26 = .ok (.getfield 17, 3) := by decide +kernel
theorem d4_29 : decode prog_55_method_6_code 29 = .ok (.iload_n 2, 1) := by decide +kernel
theorem d4_30 : decode prog_55_method_6_code 30 = .ok (.aload_n 0, 1) := by decide +kernel
theorem d4_31 : decode prog_55_method_6_code 31 = .ok (.getfield 17, 3) := by decide +kernel
theorem d4_34 : decode prog_55_method_6_code 34 = .ok (.iload_n 2, 1) := by decide +kernel
theorem d4_35 : decode prog_55_method_6_code 35 = .ok (.aaload, 1) := by decide +kernel
theorem d4_36 : decode prog_55_method_6_code 36 = .ok (.iconst 4, 1) := by decide +kernel
theorem d4_37 : decode prog_55_method_6_code 37 = .ok (.iconst 2, 1) := by decide +kernel
theorem d4_38 : decode prog_55_method_6_code 38 = .ok (.iload_n 3, 1) := by decide +kernel
theorem d4_39 : decode prog_55_method_6_code 39 = .ok (.imul, 1) := by decide +kernel
theorem d4_40 : decode prog_55_method_6_code 40 = .ok (.invokestatic 47, 3) := by decide +kernel
theorem d4_43 : decode prog_55_method_6_code 43 = .ok (.invokestatic 53, 3) := by decide +kernel
theorem d4_46 : decode prog_55_method_6_code 46 = .ok (.aastore, 1) := by decide +kernel
theorem d4_47 : decode prog_55_method_6_code 47 = .ok (.aload_n 0, 1) := by decide +kernel
theorem d4_48 : decode prog_55_method_6_code 48 = .ok (.getfield 17, 3) := by decide +kernel
theorem d4_51 : decode prog_55_method_6_code 51 = .ok (.iload_n 2, 1) := by decide +kernel
theorem d4_52 : decode prog_55_method_6_code 52 = .ok (.aaload, 1) := by decide +kernel
theorem d4_53 : decode prog_55_method_6_code 53 = .ok (.astore 4, 2) := by decide +kernel
theorem d4_55 : decode prog_55_method_6_code 55 = .ok (.iload_n 3, 1) := by decide +kernel
theorem d4_56 : decode prog_55_method_6_code 56 = .ok (.istore 5, 2) := by decide +kernel
theorem d4_58 : decode prog_55_method_6_code 58 = .ok (.iload 5, 2) := by decide +kernel
theorem d4_60 : decode prog_55_method_6_code 60 = .ok (.ifCond .le 36, 3) := by decide +kernel
theorem d4_63 : decode prog_55_method_6_code 63 = .ok (.aload_n 0, 1) := by decide +kernel
theorem d4_64 : decode prog_55_method_6_code 64 = .ok (.aload 4, 2) := by decide +kernel
theorem d4_66 : decode prog_55_method_6_code 66 = .ok (.iload 5, 2) := by decide +kernel
theorem d4_68 : decode prog_55_method_6_code 68 = .ok (.iconst 1, 1) := by decide +kernel
theorem d4_69 : decode prog_55_method_6_code 69 = .ok (.isub, 1) := by decide +kernel
theorem d4_70 : decode prog_55_method_6_code 70 = .ok (.iaload, 1) := by decide +kernel
theorem d4_71 : decode prog_55_method_6_code 71 = .ok (.iload_n 1, 1) := by decide +kernel
theorem d4_72 : decode prog_55_method_6_code 72 = .ok (.invokevirtual 57, 3) := by decide +kernel
theorem d4_75 : decode prog_55_method_6_code 75 = .ok (.ifCond .eq 21, 3) := by decide +kernel
theorem d4_78 : decode prog_55_method_6_code 78 = .ok (.aload 4, 2) := by decide +kernel
theorem d4_80 : decode prog_55_method_6_code 80 = .ok (.iload 5, 2) := by decide +kernel
theorem d4_82 : decode prog_55_method_6_code 82 = .ok (.aload 4, 2) := by decide +kernel
theorem d4_84 : decode prog_55_method_6_code 84 = .ok (.iload 5, 2) := by decide +kernel
theorem d4_86 : decode prog_55_method_6_code 86 = .ok (.iconst 1, 1) := by decide +kernel
theorem d4_87 : decode prog_55_method_6_code 87 = .ok (.isub, 1) := by decide +kernel
theorem d4_88 : decode prog_55_method_6_code 88 = .ok (.iaload, 1) := by decide +kernel
theorem d4_89 : decode prog_55_method_6_code 89 = .ok (.iastore, 1) := by decide +kernel
theorem d4_90 : decode prog_55_method_6_code 90 = .ok (.iinc 5 (-1), 3) := by decide +kernel
theorem d4_93 : decode prog_55_method_6_code 93 = .ok (.goto (-35), 3) := by decide +kernel
theorem d4_96 : decode prog_55_method_6_code 96 = .ok (.aload 4, 2) := by decide +kernel
theorem d4_98 : decode prog_55_method_6_code 98 = .ok (.iload 5, 2) := by decide +kernel
theorem d4_100 : decode prog_55_method_6_code 100 = .ok (.iload_n 1, 1) := by decide +kernel
theorem d4_101 : decode prog_55_method_6_code 101 = .ok (.iastore, 1) := by decide +kernel
theorem d4_102 : decode prog_55_method_6_code 102 = .ok (.aload_n 0, 1) := by decide +kernel
theorem d4_103 : decode prog_55_method_6_code 103 = .ok (.getfield 21, 3) := by decide +kernel
theorem d4_106 : decode prog_55_method_6_code 106 = .ok (.iload_n 2, 1) := by decide +kernel
theorem d4_107 : decode prog_55_method_6_code 107 = .ok (.iload_n 3, 1) := by decide +kernel
theorem d4_108 : decode prog_55_method_6_code 108 = .ok (.iconst 1, 1) := by decide +kernel
theorem d4_109 : decode prog_55_method_6_code 109 = .ok (.iadd, 1) := by decide +kernel
theorem d4_110 : decode prog_55_method_6_code 110 = .ok (.iastore, 1) := by decide +kernel
theorem d4_111 : decode prog_55_method_6_code 111 = .ok (.return_, 1) := by decide +kernel
theorem ef_4 (m : MethodId) (x0 : Addr) (x1 : Int32) : entryFrame m #[(.ref x0), (.int x1)] 6 = mkF m 0 #[.val (.ref x0), .val (.int x1), .unset, .unset, .unset, .unset] [] := by first | (simp [entryFrame, mkF, argsToLocals, Value.category]; done) | rfl
def f4_v46 (p2 : Int32) (c_w_de : Nat → Int32) (c_w_si : Nat → Int32) (n_w_ro : Nat → Int32) (f_w_ro : Nat → Nat → Int32) : Nat → Int32 := (ownUN n_w_ro ((c_w_de (p2).toNatClampNeg)).toNatClampNeg (f6_x0n (f5 (4 : Int32) ((2 : Int32) * (c_w_si ((c_w_de (p2).toNatClampNeg)).toNatClampNeg))) (n_w_ro ((c_w_de (p2).toNatClampNeg)).toNatClampNeg) (f_w_ro ((c_w_de (p2).toNatClampNeg)).toNatClampNeg)))
def f4_v46f (p2 : Int32) (c_w_de : Nat → Int32) (c_w_si : Nat → Int32) (n_w_ro : Nat → Int32) (f_w_ro : Nat → Nat → Int32) : Nat → Nat → Int32 := (ownUF f_w_ro ((c_w_de (p2).toNatClampNeg)).toNatClampNeg (f6_x0c (f5 (4 : Int32) ((2 : Int32) * (c_w_si ((c_w_de (p2).toNatClampNeg)).toNatClampNeg))) (n_w_ro ((c_w_de (p2).toNatClampNeg)).toNatClampNeg) (f_w_ro ((c_w_de (p2).toNatClampNeg)).toNatClampNeg)))
def f4_v101 (p2 : Int32) (c_w_de : Nat → Int32) (c_w_si : Nat → Int32) (n_w_ro : Nat → Int32) (f_w_ro : Nat → Nat → Int32) : Nat → Nat → Int32 := (ownUF (f4_v46f p2 c_w_de c_w_si n_w_ro f_w_ro) ((c_w_de (p2).toNatClampNeg)).toNatClampNeg (ownU ((f4_v46f p2 c_w_de c_w_si n_w_ro f_w_ro) ((c_w_de (p2).toNatClampNeg)).toNatClampNeg) ((c_w_si ((c_w_de (p2).toNatClampNeg)).toNatClampNeg)).toNatClampNeg p2))
def f4_v110 (p2 : Int32) (c_w_de : Nat → Int32) (c_w_si : Nat → Int32) : Nat → Int32 := (ownU c_w_si ((c_w_de (p2).toNatClampNeg)).toNatClampNeg ((c_w_si ((c_w_de (p2).toNatClampNeg)).toNatClampNeg) + (1 : Int32)))
theorem own_gm {s : Int32} (h : s = 0) : f5 4 (2 * s) = 4 := by subst h; decide
theorem own_g101 {p2 : Int32} {c sz n : Nat → Int32} {f : Nat → Nat → Int32} (h : sz (c p2.toNatClampNeg).toNatClampNeg = 0 ∧ n (c p2.toNatClampNeg).toNatClampNeg = 0) : ¬ (sz (c p2.toNatClampNeg).toNatClampNeg) < 0 ∧ (sz (c p2.toNatClampNeg).toNatClampNeg) < f4_v46 p2 c sz n f (c p2.toNatClampNeg).toNatClampNeg := by
  unfold f4_v46 ownUN f6_x0n
  rw [if_pos rfl, h.1]
  decide
def g4_58 (p2 : Int32) (z_w_de : Int32) (c_w_de : Nat → Int32) (z_w_ar : Int32) (c_w_ar : Nat → Int64) (z_w_si : Int32) (c_w_si : Nat → Int32) (n_w_ro : Nat → Int32) (f_w_ro : Nat → Nat → Int32) : Nat → Int32 → (Nat → Nat → Int32) → Nat → Int32
  | 0, _, _ => fun _ => 0
  | k + 1, i5, y0 => (if (0 : Int32) < i5 then (if (f8 ((y0 ((c_w_de (p2).toNatClampNeg)).toNatClampNeg) ((i5 - (1 : Int32))).toNatClampNeg) p2 z_w_ar c_w_ar) = (0 : Int32) then (ownU c_w_si ((c_w_de (p2).toNatClampNeg)).toNatClampNeg ((c_w_si ((c_w_de (p2).toNatClampNeg)).toNatClampNeg) + (1 : Int32))) else (g4_58 p2 z_w_de c_w_de z_w_ar c_w_ar z_w_si c_w_si n_w_ro f_w_ro k (i5 + (-1 : Int32)) (ownUF y0 ((c_w_de (p2).toNatClampNeg)).toNatClampNeg (ownU (y0 ((c_w_de (p2).toNatClampNeg)).toNatClampNeg) (i5).toNatClampNeg ((y0 ((c_w_de (p2).toNatClampNeg)).toNatClampNeg) ((i5 - (1 : Int32))).toNatClampNeg))))) else (ownU c_w_si ((c_w_de (p2).toNatClampNeg)).toNatClampNeg ((c_w_si ((c_w_de (p2).toNatClampNeg)).toNatClampNeg) + (1 : Int32))))
def f4_o0 (p2 : Int32) (z_w_de : Int32) (c_w_de : Nat → Int32) (z_w_ar : Int32) (c_w_ar : Nat → Int64) (z_w_si : Int32) (c_w_si : Nat → Int32) (n_w_ro : Nat → Int32) (f_w_ro : Nat → Nat → Int32) : Nat → Int32 := (if (c_w_si ((c_w_de (p2).toNatClampNeg)).toNatClampNeg) = (n_w_ro ((c_w_de (p2).toNatClampNeg)).toNatClampNeg) then (f4_v110 p2 c_w_de c_w_si) else (g4_58 p2 z_w_de c_w_de z_w_ar c_w_ar z_w_si c_w_si n_w_ro f_w_ro (3) (c_w_si ((c_w_de (p2).toNatClampNeg)).toNatClampNeg) f_w_ro))
def g4_58_1 (p2 : Int32) (z_w_de : Int32) (c_w_de : Nat → Int32) (z_w_ar : Int32) (c_w_ar : Nat → Int64) (z_w_si : Int32) (c_w_si : Nat → Int32) (n_w_ro : Nat → Int32) (f_w_ro : Nat → Nat → Int32) : Nat → Int32 → (Nat → Nat → Int32) → Nat → Int32
  | 0, _, _ => fun _ => 0
  | k + 1, i5, y0 => (if (0 : Int32) < i5 then (if (f8 ((y0 ((c_w_de (p2).toNatClampNeg)).toNatClampNeg) ((i5 - (1 : Int32))).toNatClampNeg) p2 z_w_ar c_w_ar) = (0 : Int32) then n_w_ro else (g4_58_1 p2 z_w_de c_w_de z_w_ar c_w_ar z_w_si c_w_si n_w_ro f_w_ro k (i5 + (-1 : Int32)) (ownUF y0 ((c_w_de (p2).toNatClampNeg)).toNatClampNeg (ownU (y0 ((c_w_de (p2).toNatClampNeg)).toNatClampNeg) (i5).toNatClampNeg ((y0 ((c_w_de (p2).toNatClampNeg)).toNatClampNeg) ((i5 - (1 : Int32))).toNatClampNeg))))) else n_w_ro)
def f4_rn (p2 : Int32) (z_w_de : Int32) (c_w_de : Nat → Int32) (z_w_ar : Int32) (c_w_ar : Nat → Int64) (z_w_si : Int32) (c_w_si : Nat → Int32) (n_w_ro : Nat → Int32) (f_w_ro : Nat → Nat → Int32) : Nat → Int32 := (if (c_w_si ((c_w_de (p2).toNatClampNeg)).toNatClampNeg) = (n_w_ro ((c_w_de (p2).toNatClampNeg)).toNatClampNeg) then (f4_v46 p2 c_w_de c_w_si n_w_ro f_w_ro) else (g4_58_1 p2 z_w_de c_w_de z_w_ar c_w_ar z_w_si c_w_si n_w_ro f_w_ro (3) (c_w_si ((c_w_de (p2).toNatClampNeg)).toNatClampNeg) f_w_ro))
def g4_58_2 (p2 : Int32) (z_w_de : Int32) (c_w_de : Nat → Int32) (z_w_ar : Int32) (c_w_ar : Nat → Int64) (z_w_si : Int32) (c_w_si : Nat → Int32) (n_w_ro : Nat → Int32) (f_w_ro : Nat → Nat → Int32) : Nat → Int32 → (Nat → Nat → Int32) → Nat → Nat → Int32
  | 0, _, _ => fun _ _ => 0
  | k + 1, i5, y0 => (if (0 : Int32) < i5 then (if (f8 ((y0 ((c_w_de (p2).toNatClampNeg)).toNatClampNeg) ((i5 - (1 : Int32))).toNatClampNeg) p2 z_w_ar c_w_ar) = (0 : Int32) then (ownUF y0 ((c_w_de (p2).toNatClampNeg)).toNatClampNeg (ownU (y0 ((c_w_de (p2).toNatClampNeg)).toNatClampNeg) (i5).toNatClampNeg p2)) else (g4_58_2 p2 z_w_de c_w_de z_w_ar c_w_ar z_w_si c_w_si n_w_ro f_w_ro k (i5 + (-1 : Int32)) (ownUF y0 ((c_w_de (p2).toNatClampNeg)).toNatClampNeg (ownU (y0 ((c_w_de (p2).toNatClampNeg)).toNatClampNeg) (i5).toNatClampNeg ((y0 ((c_w_de (p2).toNatClampNeg)).toNatClampNeg) ((i5 - (1 : Int32))).toNatClampNeg))))) else (ownUF y0 ((c_w_de (p2).toNatClampNeg)).toNatClampNeg (ownU (y0 ((c_w_de (p2).toNatClampNeg)).toNatClampNeg) (i5).toNatClampNeg p2)))
def f4_rf (p2 : Int32) (z_w_de : Int32) (c_w_de : Nat → Int32) (z_w_ar : Int32) (c_w_ar : Nat → Int64) (z_w_si : Int32) (c_w_si : Nat → Int32) (n_w_ro : Nat → Int32) (f_w_ro : Nat → Nat → Int32) : Nat → Nat → Int32 := (if (c_w_si ((c_w_de (p2).toNatClampNeg)).toNatClampNeg) = (n_w_ro ((c_w_de (p2).toNatClampNeg)).toNatClampNeg) then (f4_v101 p2 c_w_de c_w_si n_w_ro f_w_ro) else (g4_58_2 p2 z_w_de c_w_de z_w_ar c_w_ar z_w_si c_w_si n_w_ro f_w_ro (3) (c_w_si ((c_w_de (p2).toNatClampNeg)).toNatClampNeg) f_w_ro))
def Q4 (Z : State) (a1 : Addr) (p2 : Int32) (w_de : Addr) (w_ar : Addr) (w_ro : Addr) (w_si : Addr) (z_w_de : Int32) (c_w_de : Nat → Int32) (z_w_ar : Int32) (c_w_ar : Nat → Int64) (z_w_si : Int32) (c_w_si : Nat → Int32) (c_w_ro : Nat → Addr) (n_w_ro : Nat → Int32) (f_w_ro : Nat → Nat → Int32) (m_w_ro : Nat) (h0 : Heap) (n0 : Nat) (v : Option Value) (h : Heap) (L : List Loc) : Prop := ∃ cO : Nat → Addr, v = none ∧ Fr n0 L ∧ Keep h0 h [w_ro, w_si, (c_w_ro ((c_w_de (p2).toNatClampNeg)).toNatClampNeg)] ∧ IAr Z h w_si .int z_w_si (f4_o0 p2 z_w_de c_w_de z_w_ar c_w_ar z_w_si c_w_si n_w_ro f_w_ro) ∧ OwnR Z h w_ro cO (f4_rn p2 z_w_de c_w_de z_w_ar c_w_ar z_w_si c_w_si n_w_ro f_w_ro) (f4_rf p2 z_w_de c_w_de z_w_ar c_w_ar z_w_si c_w_si n_w_ro f_w_ro) [w_si, a1, w_de, w_ar] m_w_ro
set_option maxRecDepth 65536 in
set_option maxHeartbeats 40000000 in
theorem rm4 (l : Launch) (Z : State) (a0 : Array Value) (hw : ∀ d ∈ tables_1, d.before a0 Z = true) (ws : List Jvm.Cond) (a1 : Addr) (p2 : Int32) (w_de : Addr) (w_ar : Addr) (w_ro : Addr) (w_si : Addr) (z_w_de : Int32) (c_w_de : Nat → Int32) (z_w_ar : Int32) (c_w_ar : Nat → Int64) (z_w_si : Int32) (c_w_si : Nat → Int32) (c_w_ro : Nat → Addr) (n_w_ro : Nat → Int32) (f_w_ro : Nat → Nat → Int32) (m_w_ro : Nat) (h0 : Heap) (n0 : Nat) (Z0 : n0 ≤ h0.size) (E_a1 : Exa Z h0 a1 "com/example/podflow/podflow/simulation/Arrivals") (F_destination_a1 : Fld Z h0 a1 "com/example/podflow/podflow/simulation/Arrivals" "destination" "[I" (.ref w_de)) (F_arrival_a1 : Fld Z h0 a1 "com/example/podflow/podflow/simulation/Arrivals" "arrival" "[J" (.ref w_ar)) (F_rows_a1 : Fld Z h0 a1 "com/example/podflow/podflow/simulation/Arrivals" "rows" "[[I" (.ref w_ro)) (F_sizes_a1 : Fld Z h0 a1 "com/example/podflow/podflow/simulation/Arrivals" "sizes" "[I" (.ref w_si)) (V_w_de : IAr Z h0 w_de .int z_w_de c_w_de) (V_w_ar : LAr Z h0 w_ar  z_w_ar c_w_ar) (V_w_si : IAr Z h0 w_si .int z_w_si c_w_si) (g_w_si : n0 ≤ w_si) (O_w_ro : OwnR Z h0 w_ro c_w_ro n_w_ro f_w_ro [w_si, a1, w_de, w_ar] m_w_ro) (hm_w_ro : n0 ≤ m_w_ro) (ne_w_si_a1 : w_si ≠ a1) (ne_w_si_w_de : w_si ≠ w_de) (ne_w_si_w_ar : w_si ≠ w_ar) (hi : 0 ≤ p2.toInt ∧ p2.toInt < 3) (hl : z_w_de = 3 ∧ z_w_ar = 3 ∧ z_w_si = 4) (hd : ∀ i, 0 ≤ (c_w_de i).toInt ∧ (c_w_de i).toInt < 4) (hJ : own_J c_w_si n_w_ro f_w_ro p2.toInt) (hz0 : m_w_ro ≤ h0.size) :
    MetFree l (⟨"com/example/podflow/podflow/simulation/Arrivals", "add", "(I)V"⟩ : MethodName) (head1 (Jvm.Cond.code (⟨"com/example/podflow/podflow/simulation/Arrivals", "add", "(I)V"⟩ : MethodName) prog_55_method_6_code 6 none :: ws) ({ frames := 2, cells := 1, slots := 4, locals := 43 } : Room)) (fun a U => a = #[(.ref a1), (.int p2)] ∧ Z.Warmed39 U.vm ∧ U.heap = h0) (fun _ _ _ _ _ => True) (fun _ U o U' => ∃ v L, o = .returned v ∧ Q4 Z a1 p2 w_de w_ar w_ro w_si z_w_de c_w_de z_w_ar c_w_ar z_w_si c_w_si c_w_ro n_w_ro f_w_ro m_w_ro h0 n0 v U'.heap L ∧ FrameEnd U o U' L ({ frames := 2, cells := 1, slots := 4, locals := 43 } : Room).cells ({ frames := 2, cells := 1, slots := 4, locals := 43 } : Room).slots) := by
  refine MetFree.of_bodySF (plainFor_of_name pn_1) hisR ?_
  intro p e s m args below meth c s₁ Bd hml0 hP hK
  obtain ⟨rfl, hZ, hh⟩ := hP
  have hx := Bd.exec
  have hby := Bd.bytes
  have hml : c.maxLocals = 6 := hml0
  have hown : s.vm.findClass "com/example/podflow/podflow/simulation/Arrivals" = some m.cls := findClass_of_methodNamed Bd.named
  have hnm := (name_of_methodNamed Bd.named Bd.method).1
  have X0 : Stand p l e ({ frames := 2, cells := 1, slots := 4, locals := 43 } : Room) s m #[(.ref a1), (.int p2)] below meth c s₁ [] 0 0 := Stand.of_body Bd
  have e0 : s₁.heap = h0 := by rw [← hh, Bd.state]; rfl
  have N0 := Fr.nil n0
  have pre0 : ∀ t, Steps p.tables e below (s₁.setTop (mkF m 0 #[.val (.ref a1), .val (.int p2), .unset, .unset, .unset, .unset] [])) t → Steps p.tables e below (s₁.setTop (entryFrame m #[(.ref a1), (.int p2)] 6)) t := fun t k => castTop (ef_4 m a1 p2) k
  obtain ⟨T3, X3, e3, st3⟩ := getF X0 hx hZ hown (host := "") (Or.inl (hw _ (List.mem_of_getElem? (i := 16) rfl))) Via.refl e0 F_destination_a1 (g := (mkF m 1 #[.val (.ref a1), .val (.int p2), .unset, .unset, .unset, .unset] [(.ref a1)])) rfl rfl (hb hby d4_1)
  obtain ⟨T4, X4, e4, st4⟩ := getF X3 hx hZ hown (host := "") (Or.inl (hw _ (List.mem_of_getElem? (i := 22) rfl))) Via.refl e3 F_sizes_a1 (g := (mkF m 8 #[.val (.ref a1), .val (.int p2), .val (.int (c_w_de (p2).toNatClampNeg)), .unset, .unset, .unset] [(.ref a1)])) rfl rfl (hb hby d4_8)
  obtain ⟨T5, X5, e5, st5⟩ := getF X4 hx hZ hown (host := "") (Or.inl (hw _ (List.mem_of_getElem? (i := 20) rfl))) Via.refl e4 F_rows_a1 (g := (mkF m 16 #[.val (.ref a1), .val (.int p2), .val (.int (c_w_de (p2).toNatClampNeg)), .val (.int (c_w_si ((c_w_de (p2).toNatClampNeg)).toNatClampNeg)), .unset, .unset] [(.ref a1), (.int (c_w_si ((c_w_de (p2).toNatClampNeg)).toNatClampNeg))])) rfl rfl (hb hby d4_16)
  have pre1 : ∀ t, Steps p.tables e below (T5.setTop (mkF m 22 #[.val (.ref a1), .val (.int p2), .val (.int (c_w_de (p2).toNatClampNeg)), .val (.int (c_w_si ((c_w_de (p2).toNatClampNeg)).toNatClampNeg)), .unset, .unset] [(.int (n_w_ro ((c_w_de (p2).toNatClampNeg)).toNatClampNeg)), (.int (c_w_si ((c_w_de (p2).toNatClampNeg)).toNatClampNeg))])) t → Steps p.tables e below (s₁.setTop (entryFrame m #[(.ref a1), (.int p2)] 6)) t := by
    intro t k
    refine pre0 t ?_
    show Steps p.tables e below (s₁.setTop (mkF m 0 #[.val (.ref a1), .val (.int p2), .unset, .unset, .unset, .unset] [])) _
    refine XS.aloadN X0.here hx rfl (hb hby d4_0) rfl rfl ?_
    show Steps p.tables e below (s₁.setTop (mkF m 1 #[.val (.ref a1), .val (.int p2), .unset, .unset, .unset, .unset] [(.ref a1)])) _
    refine st3 _ ?_
    show Steps p.tables e below (T3.setTop (mkF m 4 #[.val (.ref a1), .val (.int p2), .unset, .unset, .unset, .unset] [(.ref w_de)])) _
    refine XS.iloadN X3.here hx rfl (hb hby d4_4) rfl ?_
    show Steps p.tables e below (T3.setTop (mkF m 5 #[.val (.ref a1), .val (.int p2), .unset, .unset, .unset, .unset] [(.int p2), (.ref w_de)])) _
    refine ldI X3 hx hZ e3 V_w_de (j := p2) (own_i3 hi hl.1) (g := (mkF m 5 #[.val (.ref a1), .val (.int p2), .unset, .unset, .unset, .unset] [(.int p2), (.ref w_de)])) rfl rfl (hb hby d4_5) ?_
    show Steps p.tables e below (T3.setTop (mkF m 6 #[.val (.ref a1), .val (.int p2), .unset, .unset, .unset, .unset] [(.int (c_w_de (p2).toNatClampNeg))])) _
    refine XS.istoreN X3.here hx rfl (hb hby d4_6) rfl (l' := #[.val (.ref a1), .val (.int p2), .val (.int (c_w_de (p2).toNatClampNeg)), .unset, .unset, .unset]) rfl ?_
    show Steps p.tables e below (T3.setTop (mkF m 7 #[.val (.ref a1), .val (.int p2), .val (.int (c_w_de (p2).toNatClampNeg)), .unset, .unset, .unset] [])) _
    refine XS.aloadN X3.here hx rfl (hb hby d4_7) rfl rfl ?_
    show Steps p.tables e below (T3.setTop (mkF m 8 #[.val (.ref a1), .val (.int p2), .val (.int (c_w_de (p2).toNatClampNeg)), .unset, .unset, .unset] [(.ref a1)])) _
    refine st4 _ ?_
    show Steps p.tables e below (T4.setTop (mkF m 11 #[.val (.ref a1), .val (.int p2), .val (.int (c_w_de (p2).toNatClampNeg)), .unset, .unset, .unset] [(.ref w_si)])) _
    refine XS.iloadN X4.here hx rfl (hb hby d4_11) rfl ?_
    show Steps p.tables e below (T4.setTop (mkF m 12 #[.val (.ref a1), .val (.int p2), .val (.int (c_w_de (p2).toNatClampNeg)), .unset, .unset, .unset] [(.int (c_w_de (p2).toNatClampNeg)), (.ref w_si)])) _
    refine ldI X4 hx hZ e4 V_w_si (j := (c_w_de (p2).toNatClampNeg)) (own_i4 (hd _) hl.2.2) (g := (mkF m 12 #[.val (.ref a1), .val (.int p2), .val (.int (c_w_de (p2).toNatClampNeg)), .unset, .unset, .unset] [(.int (c_w_de (p2).toNatClampNeg)), (.ref w_si)])) rfl rfl (hb hby d4_12) ?_
    show Steps p.tables e below (T4.setTop (mkF m 13 #[.val (.ref a1), .val (.int p2), .val (.int (c_w_de (p2).toNatClampNeg)), .unset, .unset, .unset] [(.int (c_w_si ((c_w_de (p2).toNatClampNeg)).toNatClampNeg))])) _
    refine XS.istoreN X4.here hx rfl (hb hby d4_13) rfl (l' := #[.val (.ref a1), .val (.int p2), .val (.int (c_w_de (p2).toNatClampNeg)), .val (.int (c_w_si ((c_w_de (p2).toNatClampNeg)).toNatClampNeg)), .unset, .unset]) rfl ?_
    show Steps p.tables e below (T4.setTop (mkF m 14 #[.val (.ref a1), .val (.int p2), .val (.int (c_w_de (p2).toNatClampNeg)), .val (.int (c_w_si ((c_w_de (p2).toNatClampNeg)).toNatClampNeg)), .unset, .unset] [])) _
    refine XS.iloadN X4.here hx rfl (hb hby d4_14) rfl ?_
    show Steps p.tables e below (T4.setTop (mkF m 15 #[.val (.ref a1), .val (.int p2), .val (.int (c_w_de (p2).toNatClampNeg)), .val (.int (c_w_si ((c_w_de (p2).toNatClampNeg)).toNatClampNeg)), .unset, .unset] [(.int (c_w_si ((c_w_de (p2).toNatClampNeg)).toNatClampNeg))])) _
    refine XS.aloadN X4.here hx rfl (hb hby d4_15) rfl rfl ?_
    show Steps p.tables e below (T4.setTop (mkF m 16 #[.val (.ref a1), .val (.int p2), .val (.int (c_w_de (p2).toNatClampNeg)), .val (.int (c_w_si ((c_w_de (p2).toNatClampNeg)).toNatClampNeg)), .unset, .unset] [(.ref a1), (.int (c_w_si ((c_w_de (p2).toNatClampNeg)).toNatClampNeg))])) _
    refine st5 _ ?_
    show Steps p.tables e below (T5.setTop (mkF m 19 #[.val (.ref a1), .val (.int p2), .val (.int (c_w_de (p2).toNatClampNeg)), .val (.int (c_w_si ((c_w_de (p2).toNatClampNeg)).toNatClampNeg)), .unset, .unset] [(.ref w_ro), (.int (c_w_si ((c_w_de (p2).toNatClampNeg)).toNatClampNeg))])) _
    refine XS.iloadN X5.here hx rfl (hb hby d4_19) rfl ?_
    show Steps p.tables e below (T5.setTop (mkF m 20 #[.val (.ref a1), .val (.int p2), .val (.int (c_w_de (p2).toNatClampNeg)), .val (.int (c_w_si ((c_w_de (p2).toNatClampNeg)).toNatClampNeg)), .unset, .unset] [(.int (c_w_de (p2).toNatClampNeg)), (.ref w_ro), (.int (c_w_si ((c_w_de (p2).toNatClampNeg)).toNatClampNeg))])) _
    refine ldR X5 hx hZ e5 O_w_ro.1 rfl (j := (c_w_de (p2).toNatClampNeg)) (own_i4 (hd _) rfl) (g := (mkF m 20 #[.val (.ref a1), .val (.int p2), .val (.int (c_w_de (p2).toNatClampNeg)), .val (.int (c_w_si ((c_w_de (p2).toNatClampNeg)).toNatClampNeg)), .unset, .unset] [(.int (c_w_de (p2).toNatClampNeg)), (.ref w_ro), (.int (c_w_si ((c_w_de (p2).toNatClampNeg)).toNatClampNeg))])) rfl rfl (hb hby d4_20) ?_
    show Steps p.tables e below (T5.setTop (mkF m 21 #[.val (.ref a1), .val (.int p2), .val (.int (c_w_de (p2).toNatClampNeg)), .val (.int (c_w_si ((c_w_de (p2).toNatClampNeg)).toNatClampNeg)), .unset, .unset] [(.ref (c_w_ro ((c_w_de (p2).toNatClampNeg)).toNatClampNeg)), (.int (c_w_si ((c_w_de (p2).toNatClampNeg)).toNatClampNeg))])) _
    refine alen X5 hx hZ e5 (O_w_ro.2.2.2.1 ((c_w_de (p2).toNatClampNeg)).toNatClampNeg (own_d4 (hd _))).1 (g := (mkF m 21 #[.val (.ref a1), .val (.int p2), .val (.int (c_w_de (p2).toNatClampNeg)), .val (.int (c_w_si ((c_w_de (p2).toNatClampNeg)).toNatClampNeg)), .unset, .unset] [(.ref (c_w_ro ((c_w_de (p2).toNatClampNeg)).toNatClampNeg)), (.int (c_w_si ((c_w_de (p2).toNatClampNeg)).toNatClampNeg))])) rfl rfl (hb hby d4_21) ?_
    exact k
  by_cases hc22 : (c_w_si ((c_w_de (p2).toNatClampNeg)).toNatClampNeg) = (n_w_ro ((c_w_de (p2).toNatClampNeg)).toNatClampNeg)
  · obtain ⟨T6, X6, e6, st6⟩ := getF X5 hx hZ hown (host := "") (Or.inl (hw _ (List.mem_of_getElem? (i := 20) rfl))) Via.refl e5 F_rows_a1 (g := (mkF m 26 #[.val (.ref a1), .val (.int p2), .val (.int (c_w_de (p2).toNatClampNeg)), .val (.int (c_w_si ((c_w_de (p2).toNatClampNeg)).toNatClampNeg)), .unset, .unset] [(.ref a1)])) rfl rfl (hb hby d4_26)
    obtain ⟨T7, X7, e7, st7⟩ := getF X6 hx hZ hown (host := "") (Or.inl (hw _ (List.mem_of_getElem? (i := 20) rfl))) Via.refl e6 F_rows_a1 (g := (mkF m 31 #[.val (.ref a1), .val (.int p2), .val (.int (c_w_de (p2).toNatClampNeg)), .val (.int (c_w_si ((c_w_de (p2).toNatClampNeg)).toNatClampNeg)), .unset, .unset] [(.ref a1), (.int (c_w_de (p2).toNatClampNeg)), (.ref w_ro)])) rfl rfl (hb hby d4_31)
    obtain ⟨_, _, ⟨T8, L8, k8, n8⟩, -, X8, ⟨Lc8, hQ8, l8, y8, z8⟩, st8⟩ := Jvm.LawKit.callS X7 hx (y := (⟨"java/lang/Math", "max", "(II)I"⟩ : MethodName)) hown (mvT hZ (hw _ (List.mem_of_getElem? (i := 29) rfl))) (mvT hZ (hw _ (List.mem_of_getElem? (i := 30) rfl))) (mvT hZ (hw _ (List.mem_of_getElem? (i := 31) rfl))) (mvT hZ (hw _ (List.mem_of_getElem? (i := 32) rfl))) (by decide) (backOf (W := 3) (rm5 l Z a0 hw [] (4 : Int32) ((2 : Int32) * (c_w_si ((c_w_de (p2).toNatClampNeg)).toNatClampNeg)) h0 n0 Z0 ) hZ (hw _ (List.mem_of_getElem? (i := 32) rfl)) (hw _ (List.mem_of_getElem? (i := 31) rfl)) (by decide) (by decide)) (g := (mkF m 40 #[.val (.ref a1), .val (.int p2), .val (.int (c_w_de (p2).toNatClampNeg)), .val (.int (c_w_si ((c_w_de (p2).toNatClampNeg)).toNatClampNeg)), .unset, .unset] [(.int ((2 : Int32) * (c_w_si ((c_w_de (p2).toNatClampNeg)).toNatClampNeg))), (.int (4 : Int32)), (.ref (c_w_ro ((c_w_de (p2).toNatClampNeg)).toNatClampNeg)), (.int (c_w_de (p2).toNatClampNeg)), (.ref w_ro)])) rfl (by rw [hml]; rfl) (argsL := [(.int (4 : Int32)), (.int ((2 : Int32) * (c_w_si ((c_w_de (p2).toNatClampNeg)).toNatClampNeg)))]) (rest := [(.ref (c_w_ro ((c_w_de (p2).toNatClampNeg)).toNatClampNeg)), (.int (c_w_de (p2).toNatClampNeg)), (.ref w_ro)]) (lenOf pd_0 rfl) rfl (by show 2 * 0 + _ ≤ _; exact Nat.le_of_eq rfl) (hb hby d4_40) (fun _ _ => ⟨rfl, e7, (by decide : 0 + 0 ≤ _), (by decide : 0 + 0 ≤ _)⟩)
    dsimp only [Pt.U, Pt.locs, Pt.cells, Pt.slots] at X8 l8 y8 z8 st8 hQ8
    subst l8 y8 z8
    obtain ⟨rfl, N8q, e8⟩ := hQ8
    have N8 := Fr.app N0 N8q
    obtain ⟨_, _, ⟨T9, L9, k9, n9⟩, -, X9, ⟨Lc9, hQ9, l9, y9, z9⟩, st9⟩ := Jvm.LawKit.callS X8 hx (y := (⟨"java/util/Arrays", "copyOf", "([II)[I"⟩ : MethodName)) hown (mvT hZ (hw _ (List.mem_of_getElem? (i := 33) rfl))) (mvT hZ (hw _ (List.mem_of_getElem? (i := 34) rfl))) (mvT hZ (hw _ (List.mem_of_getElem? (i := 35) rfl))) (mvT hZ (hw _ (List.mem_of_getElem? (i := 36) rfl))) (by decide) (backOf (W := 2) (rm6 l Z a0 hw [] (c_w_ro ((c_w_de (p2).toNatClampNeg)).toNatClampNeg) (f5 (4 : Int32) ((2 : Int32) * (c_w_si ((c_w_de (p2).toNatClampNeg)).toNatClampNeg))) (n_w_ro ((c_w_de (p2).toNatClampNeg)).toNatClampNeg) (f_w_ro ((c_w_de (p2).toNatClampNeg)).toNatClampNeg) h0 n0 Z0 (O_w_ro.2.2.2.1 ((c_w_de (p2).toNatClampNeg)).toNatClampNeg (own_d4 (hd _))).1 (own_gz hJ (hd _) hi hc22).2 (own_gm (own_gz hJ (hd _) hi hc22).1)) hZ (hw _ (List.mem_of_getElem? (i := 36) rfl)) (hw _ (List.mem_of_getElem? (i := 35) rfl)) (by decide) (by decide)) (g := (mkF m 43 #[.val (.ref a1), .val (.int p2), .val (.int (c_w_de (p2).toNatClampNeg)), .val (.int (c_w_si ((c_w_de (p2).toNatClampNeg)).toNatClampNeg)), .unset, .unset] [(.int (f5 (4 : Int32) ((2 : Int32) * (c_w_si ((c_w_de (p2).toNatClampNeg)).toNatClampNeg)))), (.ref (c_w_ro ((c_w_de (p2).toNatClampNeg)).toNatClampNeg)), (.int (c_w_de (p2).toNatClampNeg)), (.ref w_ro)])) rfl (by rw [hml]; rfl) (argsL := [(.ref (c_w_ro ((c_w_de (p2).toNatClampNeg)).toNatClampNeg)), (.int (f5 (4 : Int32) ((2 : Int32) * (c_w_si ((c_w_de (p2).toNatClampNeg)).toNatClampNeg))))]) (rest := [(.int (c_w_de (p2).toNatClampNeg)), (.ref w_ro)]) (lenOf pd_1 rfl) rfl (by show 2 * 0 + _ ≤ _; exact Nat.le_of_eq rfl) (hb hby d4_43) (fun _ _ => ⟨rfl, e8, (by decide : 0 + 1 ≤ _), (by decide : 0 + 4 ≤ _)⟩)
    dsimp only [Pt.U, Pt.locs, Pt.cells, Pt.slots] at X9 l9 y9 z9 st9 hQ9
    subst l9 y9 z9
    obtain ⟨r9_0, rfl, N9q, K9, zz9_0, va9_0, ve9_0⟩ := hQ9
    have N9 := Fr.app N8 N9q
    have ne_a1_r9_0 : a1 ≠ r9_0 := Nat.ne_of_lt (Nat.lt_of_lt_of_le E_a1.lt zz9_0)
    have ne_w_de_r9_0 : w_de ≠ r9_0 := Nat.ne_of_lt (Nat.lt_of_lt_of_le V_w_de.lt zz9_0)
    have ne_w_ar_r9_0 : w_ar ≠ r9_0 := Nat.ne_of_lt (Nat.lt_of_lt_of_le V_w_ar.lt zz9_0)
    have ne_w_si_r9_0 : w_si ≠ r9_0 := Nat.ne_of_lt (Nat.lt_of_lt_of_le V_w_si.lt zz9_0)
    have nr_r9_0 : w_ro ≠ r9_0 := Nat.ne_of_lt (Nat.lt_of_lt_of_le O_w_ro.1.lt zz9_0)
    have nq_r9_0 : ∀ i, i < 4 → c_w_ro i ≠ r9_0 := fun i hi => Nat.ne_of_lt (Nat.lt_of_lt_of_le (O_w_ro.2.2.2.1 i hi).1.lt zz9_0)
    have g_r9_0 : n0 ≤ r9_0 := Nat.le_trans Z0 zz9_0
    have sz_r9_0 : h0.size ≤ r9_0 := Nat.le_trans (Keep.refl h0 [w_ro, w_si, (c_w_ro ((c_w_de (p2).toNatClampNeg)).toNatClampNeg)]).1 zz9_0
    have c10 : n0 ≤ T9.heap.size := Nat.le_trans Z0 K9.1
    have c11 : Exa Z T9.heap a1 "com/example/podflow/podflow/simulation/Arrivals" := E_a1.keep K9
    have c12 : Fld Z T9.heap a1 "com/example/podflow/podflow/simulation/Arrivals" "destination" "[I" (.ref w_de) := F_destination_a1.keep K9 nin0
    have c13 : Fld Z T9.heap a1 "com/example/podflow/podflow/simulation/Arrivals" "arrival" "[J" (.ref w_ar) := F_arrival_a1.keep K9 nin0
    have c14 : Fld Z T9.heap a1 "com/example/podflow/podflow/simulation/Arrivals" "rows" "[[I" (.ref w_ro) := F_rows_a1.keep K9 nin0
    have c15 : Fld Z T9.heap a1 "com/example/podflow/podflow/simulation/Arrivals" "sizes" "[I" (.ref w_si) := F_sizes_a1.keep K9 nin0
    have c16 : IAr Z T9.heap w_de .int z_w_de c_w_de := V_w_de.keep K9 nin0
    have c17 : LAr Z T9.heap w_ar  z_w_ar c_w_ar := V_w_ar.keep K9 nin0
    have c18 : IAr Z T9.heap w_si .int z_w_si c_w_si := V_w_si.keep K9 nin0
    have c19 : OwnR Z T9.heap w_ro c_w_ro n_w_ro f_w_ro [w_si, a1, w_de, w_ar] m_w_ro := O_w_ro.keep K9 own_in0
    have c20 : Keep h0 T9.heap [w_ro, w_si, (c_w_ro ((c_w_de (p2).toNatClampNeg)).toNatClampNeg)] := (Keep.refl h0 [w_ro, w_si, (c_w_ro ((c_w_de (p2).toNatClampNeg)).toNatClampNeg)]).trans K9 all0
    obtain ⟨T21, h21, X21, e21, W21, st21⟩ := sR X9 hx hZ rfl c19.1 rfl (own_sto (hw _ (List.mem_of_getElem? (i := 9) rfl)) c19.2.1 c19.1 ve9_0) (j := (c_w_de (p2).toNatClampNeg)) (own_i4 (hd _) rfl) (g := (mkF m 46 #[.val (.ref a1), .val (.int p2), .val (.int (c_w_de (p2).toNatClampNeg)), .val (.int (c_w_si ((c_w_de (p2).toNatClampNeg)).toNatClampNeg)), .unset, .unset] [(.ref r9_0), (.int (c_w_de (p2).toNatClampNeg)), (.ref w_ro)])) rfl rfl (hb hby d4_46)
    have N21 := Fr.snoc X21 N9 (Nat.le_trans hm_w_ro c19.2.2.1)
    have c22 : n0 ≤ h21.size := Nat.le_trans c10 (Keep.of_wr W21).1
    have c23 : Exa Z h21 a1 "com/example/podflow/podflow/simulation/Arrivals" := c11.wr W21
    have c24 : Fld Z h21 a1 "com/example/podflow/podflow/simulation/Arrivals" "destination" "[I" (.ref w_de) := c12.other W21 (Or.inl (Ne.symm (c19.2.2.2.2.2 _ (List.mem_of_getElem? (i := 1) rfl)).1))
    have c25 : Fld Z h21 a1 "com/example/podflow/podflow/simulation/Arrivals" "arrival" "[J" (.ref w_ar) := c13.other W21 (Or.inl (Ne.symm (c19.2.2.2.2.2 _ (List.mem_of_getElem? (i := 1) rfl)).1))
    have c26 : Fld Z h21 a1 "com/example/podflow/podflow/simulation/Arrivals" "rows" "[[I" (.ref w_ro) := c14.other W21 (Or.inl (Ne.symm (c19.2.2.2.2.2 _ (List.mem_of_getElem? (i := 1) rfl)).1))
    have c27 : Fld Z h21 a1 "com/example/podflow/podflow/simulation/Arrivals" "sizes" "[I" (.ref w_si) := c15.other W21 (Or.inl (Ne.symm (c19.2.2.2.2.2 _ (List.mem_of_getElem? (i := 1) rfl)).1))
    have c28 : IAr Z h21 w_de .int z_w_de c_w_de := c16.other W21 (Ne.symm (c19.2.2.2.2.2 _ (List.mem_of_getElem? (i := 2) rfl)).1)
    have c29 : LAr Z h21 w_ar  z_w_ar c_w_ar := c17.other W21 (Ne.symm (c19.2.2.2.2.2 _ (List.mem_of_getElem? (i := 3) rfl)).1)
    have c30 : IAr Z h21 w_si .int z_w_si c_w_si := c18.other W21 (Ne.symm (c19.2.2.2.2.2 _ (List.mem_of_getElem? (i := 0) rfl)).1)
    have c31 : OwnR Z h21 w_ro (ownUR c_w_ro ((c_w_de (p2).toNatClampNeg)).toNatClampNeg r9_0) (f4_v46 p2 c_w_de c_w_si n_w_ro f_w_ro) (f4_v46f p2 c_w_de c_w_si n_w_ro f_w_ro) [w_si, a1, w_de, w_ar] m_w_ro := c19.grow (own_d4 (hd _)) va9_0 (Nat.le_trans hz0 sz_r9_0) nr_r9_0 nq_r9_0 (own_neS (Ne.symm ne_w_si_r9_0) (own_neS (Ne.symm ne_a1_r9_0) (own_neS (Ne.symm ne_w_de_r9_0) (own_neS (Ne.symm ne_w_ar_r9_0) own_ne0)))) W21
    have c32 : Keep h0 h21 [w_ro, w_si, (c_w_ro ((c_w_de (p2).toNatClampNeg)).toNatClampNeg)] := c20.wr W21 (Or.inl (List.mem_of_getElem? (i := 0) rfl))
    have c33 : IAr Z h21 r9_0 .int (f6_x0n (f5 (4 : Int32) ((2 : Int32) * (c_w_si ((c_w_de (p2).toNatClampNeg)).toNatClampNeg))) (n_w_ro ((c_w_de (p2).toNatClampNeg)).toNatClampNeg) (f_w_ro ((c_w_de (p2).toNatClampNeg)).toNatClampNeg)) (f6_x0c (f5 (4 : Int32) ((2 : Int32) * (c_w_si ((c_w_de (p2).toNatClampNeg)).toNatClampNeg))) (n_w_ro ((c_w_de (p2).toNatClampNeg)).toNatClampNeg) (f_w_ro ((c_w_de (p2).toNatClampNeg)).toNatClampNeg)) := va9_0.other W21 (Ne.symm nr_r9_0)
    have c34 : Exa Z h21 r9_0 "[I" := ve9_0.wr W21
    obtain ⟨T35, X35, e35, st35⟩ := getF X21 hx hZ hown (host := "") (Or.inl (hw _ (List.mem_of_getElem? (i := 20) rfl))) Via.refl e21 c26 (g := (mkF m 48 #[.val (.ref a1), .val (.int p2), .val (.int (c_w_de (p2).toNatClampNeg)), .val (.int (c_w_si ((c_w_de (p2).toNatClampNeg)).toNatClampNeg)), .unset, .unset] [(.ref a1)])) rfl rfl (hb hby d4_48)
    obtain ⟨T36, h36, X36, e36, W36, V36, st36⟩ := sI X35 hx hZ e35 (c31.2.2.2.1 ((c_w_de (p2).toNatClampNeg)).toNatClampNeg (own_d4 (hd _))).1 (j := (c_w_si ((c_w_de (p2).toNatClampNeg)).toNatClampNeg)) (own_g101 (own_gz hJ (hd _) hi hc22)) (g := (mkF m 101 #[.val (.ref a1), .val (.int p2), .val (.int (c_w_de (p2).toNatClampNeg)), .val (.int (c_w_si ((c_w_de (p2).toNatClampNeg)).toNatClampNeg)), .val (.ref ((ownUR c_w_ro ((c_w_de (p2).toNatClampNeg)).toNatClampNeg r9_0) ((c_w_de (p2).toNatClampNeg)).toNatClampNeg)), .val (.int (c_w_si ((c_w_de (p2).toNatClampNeg)).toNatClampNeg))] [(.int p2), (.int (c_w_si ((c_w_de (p2).toNatClampNeg)).toNatClampNeg)), (.ref ((ownUR c_w_ro ((c_w_de (p2).toNatClampNeg)).toNatClampNeg r9_0) ((c_w_de (p2).toNatClampNeg)).toNatClampNeg))])) rfl rfl (hb hby d4_101)
    have N36 := Fr.snoc X36 N21 (Nat.le_trans hm_w_ro (c31.2.2.2.1 ((c_w_de (p2).toNatClampNeg)).toNatClampNeg (own_d4 (hd _))).2.1)
    have c37 : n0 ≤ h36.size := Nat.le_trans c22 (Keep.of_wr W36).1
    have c38 : Exa Z h36 a1 "com/example/podflow/podflow/simulation/Arrivals" := c23.wr W36
    have c39 : Fld Z h36 a1 "com/example/podflow/podflow/simulation/Arrivals" "destination" "[I" (.ref w_de) := c24.other W36 (Or.inl (Ne.symm ((c31.2.2.2.2.2 _ (List.mem_of_getElem? (i := 1) rfl)).2 _ (own_d4 (hd _)))))
    have c40 : Fld Z h36 a1 "com/example/podflow/podflow/simulation/Arrivals" "arrival" "[J" (.ref w_ar) := c25.other W36 (Or.inl (Ne.symm ((c31.2.2.2.2.2 _ (List.mem_of_getElem? (i := 1) rfl)).2 _ (own_d4 (hd _)))))
    have c41 : Fld Z h36 a1 "com/example/podflow/podflow/simulation/Arrivals" "rows" "[[I" (.ref w_ro) := c26.other W36 (Or.inl (Ne.symm ((c31.2.2.2.2.2 _ (List.mem_of_getElem? (i := 1) rfl)).2 _ (own_d4 (hd _)))))
    have c42 : Fld Z h36 a1 "com/example/podflow/podflow/simulation/Arrivals" "sizes" "[I" (.ref w_si) := c27.other W36 (Or.inl (Ne.symm ((c31.2.2.2.2.2 _ (List.mem_of_getElem? (i := 1) rfl)).2 _ (own_d4 (hd _)))))
    have c43 : IAr Z h36 w_de .int z_w_de c_w_de := c28.other W36 (Ne.symm ((c31.2.2.2.2.2 _ (List.mem_of_getElem? (i := 2) rfl)).2 _ (own_d4 (hd _))))
    have c44 : LAr Z h36 w_ar  z_w_ar c_w_ar := c29.other W36 (Ne.symm ((c31.2.2.2.2.2 _ (List.mem_of_getElem? (i := 3) rfl)).2 _ (own_d4 (hd _))))
    have c45 : IAr Z h36 w_si .int z_w_si c_w_si := c30.other W36 (Ne.symm ((c31.2.2.2.2.2 _ (List.mem_of_getElem? (i := 0) rfl)).2 _ (own_d4 (hd _))))
    have c46 : OwnR Z h36 w_ro (ownUR c_w_ro ((c_w_de (p2).toNatClampNeg)).toNatClampNeg r9_0) (f4_v46 p2 c_w_de c_w_si n_w_ro f_w_ro) (f4_v101 p2 c_w_de c_w_si n_w_ro f_w_ro) [w_si, a1, w_de, w_ar] m_w_ro := c31.set (own_d4 (hd _)) W36
    have c47 : Keep h0 h36 [w_ro, w_si, (c_w_ro ((c_w_de (p2).toNatClampNeg)).toNatClampNeg)] := c32.wr W36 (Or.inr (by unfold ownUR; rw [if_pos rfl]; exact sz_r9_0))
    have c49 : Exa Z h36 r9_0 "[I" := c34.wr W36
    obtain ⟨T50, X50, e50, st50⟩ := getF X36 hx hZ hown (host := "") (Or.inl (hw _ (List.mem_of_getElem? (i := 22) rfl))) Via.refl e36 c42 (g := (mkF m 103 #[.val (.ref a1), .val (.int p2), .val (.int (c_w_de (p2).toNatClampNeg)), .val (.int (c_w_si ((c_w_de (p2).toNatClampNeg)).toNatClampNeg)), .val (.ref ((ownUR c_w_ro ((c_w_de (p2).toNatClampNeg)).toNatClampNeg r9_0) ((c_w_de (p2).toNatClampNeg)).toNatClampNeg)), .val (.int (c_w_si ((c_w_de (p2).toNatClampNeg)).toNatClampNeg))] [(.ref a1)])) rfl rfl (hb hby d4_103)
    obtain ⟨T51, h51, X51, e51, W51, V51, st51⟩ := sI X50 hx hZ e50 c45 (j := (c_w_de (p2).toNatClampNeg)) (own_i4 (hd _) hl.2.2) (g := (mkF m 110 #[.val (.ref a1), .val (.int p2), .val (.int (c_w_de (p2).toNatClampNeg)), .val (.int (c_w_si ((c_w_de (p2).toNatClampNeg)).toNatClampNeg)), .val (.ref ((ownUR c_w_ro ((c_w_de (p2).toNatClampNeg)).toNatClampNeg r9_0) ((c_w_de (p2).toNatClampNeg)).toNatClampNeg)), .val (.int (c_w_si ((c_w_de (p2).toNatClampNeg)).toNatClampNeg))] [(.int ((c_w_si ((c_w_de (p2).toNatClampNeg)).toNatClampNeg) + (1 : Int32))), (.int (c_w_de (p2).toNatClampNeg)), (.ref w_si)])) rfl rfl (hb hby d4_110)
    have N51 := Fr.snoc X51 N36 g_w_si
    have c52 : n0 ≤ h51.size := Nat.le_trans c37 (Keep.of_wr W51).1
    have c53 : Exa Z h51 a1 "com/example/podflow/podflow/simulation/Arrivals" := c38.wr W51
    have c54 : Fld Z h51 a1 "com/example/podflow/podflow/simulation/Arrivals" "destination" "[I" (.ref w_de) := c39.other W51 (Or.inl (Ne.symm ne_w_si_a1))
    have c55 : Fld Z h51 a1 "com/example/podflow/podflow/simulation/Arrivals" "arrival" "[J" (.ref w_ar) := c40.other W51 (Or.inl (Ne.symm ne_w_si_a1))
    have c56 : Fld Z h51 a1 "com/example/podflow/podflow/simulation/Arrivals" "rows" "[[I" (.ref w_ro) := c41.other W51 (Or.inl (Ne.symm ne_w_si_a1))
    have c57 : Fld Z h51 a1 "com/example/podflow/podflow/simulation/Arrivals" "sizes" "[I" (.ref w_si) := c42.other W51 (Or.inl (Ne.symm ne_w_si_a1))
    have c58 : IAr Z h51 w_de .int z_w_de c_w_de := c43.other W51 (Ne.symm ne_w_si_w_de)
    have c59 : LAr Z h51 w_ar  z_w_ar c_w_ar := c44.other W51 (Ne.symm ne_w_si_w_ar)
    have c60 : IAr Z h51 w_si .int z_w_si (f4_v110 p2 c_w_de c_w_si) := V51
    have c61 : OwnR Z h51 w_ro (ownUR c_w_ro ((c_w_de (p2).toNatClampNeg)).toNatClampNeg r9_0) (f4_v46 p2 c_w_de c_w_si n_w_ro f_w_ro) (f4_v101 p2 c_w_de c_w_si n_w_ro f_w_ro) [w_si, a1, w_de, w_ar] m_w_ro := c46.other W51 (List.mem_of_getElem? (i := 0) rfl)
    have c62 : Keep h0 h51 [w_ro, w_si, (c_w_ro ((c_w_de (p2).toNatClampNeg)).toNatClampNeg)] := c47.wr W51 (Or.inl (List.mem_of_getElem? (i := 1) rfl))
    have c63 : Exa Z h51 r9_0 "[I" := c49.wr W51
    have eq2 : (f4_o0 p2 z_w_de c_w_de z_w_ar c_w_ar z_w_si c_w_si n_w_ro f_w_ro) = (f4_v110 p2 c_w_de c_w_si) := by unfold f4_o0; simp only [if_pos hc22]
    have eq3 : (f4_rn p2 z_w_de c_w_de z_w_ar c_w_ar z_w_si c_w_si n_w_ro f_w_ro) = (f4_v46 p2 c_w_de c_w_si n_w_ro f_w_ro) := by unfold f4_rn; simp only [if_pos hc22]
    have eq4 : (f4_rf p2 z_w_de c_w_de z_w_ar c_w_ar z_w_si c_w_si n_w_ro f_w_ro) = (f4_v101 p2 c_w_de c_w_si n_w_ro f_w_ro) := by unfold f4_rf; simp only [if_pos hc22]
    obtain ⟨fs, hr, hrun, hended, hW, hsame⟩ := X51.leave (v := none) (fun _ => rfl)
    refine ⟨_, _, pre1 _ ?_, hrun, hended, _, _, rfl, ?_, ⟨_, rfl⟩, hW, hsame.mono (by decide) (by decide)⟩
    · show Steps p.tables e below (T5.setTop (mkF m 22 #[.val (.ref a1), .val (.int p2), .val (.int (c_w_de (p2).toNatClampNeg)), .val (.int (c_w_si ((c_w_de (p2).toNatClampNeg)).toNatClampNeg)), .unset, .unset] [(.int (n_w_ro ((c_w_de (p2).toNatClampNeg)).toNatClampNeg)), (.int (c_w_si ((c_w_de (p2).toNatClampNeg)).toNatClampNeg))])) _
      refine XS.icmpNo X5.here hx rfl (hb hby d4_22) rfl (teq hc22).2 ?_
      show Steps p.tables e below (T5.setTop (mkF m 25 #[.val (.ref a1), .val (.int p2), .val (.int (c_w_de (p2).toNatClampNeg)), .val (.int (c_w_si ((c_w_de (p2).toNatClampNeg)).toNatClampNeg)), .unset, .unset] [])) _
      refine XS.aloadN X5.here hx rfl (hb hby d4_25) rfl rfl ?_
      show Steps p.tables e below (T5.setTop (mkF m 26 #[.val (.ref a1), .val (.int p2), .val (.int (c_w_de (p2).toNatClampNeg)), .val (.int (c_w_si ((c_w_de (p2).toNatClampNeg)).toNatClampNeg)), .unset, .unset] [(.ref a1)])) _
      refine st6 _ ?_
      show Steps p.tables e below (T6.setTop (mkF m 29 #[.val (.ref a1), .val (.int p2), .val (.int (c_w_de (p2).toNatClampNeg)), .val (.int (c_w_si ((c_w_de (p2).toNatClampNeg)).toNatClampNeg)), .unset, .unset] [(.ref w_ro)])) _
      refine XS.iloadN X6.here hx rfl (hb hby d4_29) rfl ?_
      show Steps p.tables e below (T6.setTop (mkF m 30 #[.val (.ref a1), .val (.int p2), .val (.int (c_w_de (p2).toNatClampNeg)), .val (.int (c_w_si ((c_w_de (p2).toNatClampNeg)).toNatClampNeg)), .unset, .unset] [(.int (c_w_de (p2).toNatClampNeg)), (.ref w_ro)])) _
      refine XS.aloadN X6.here hx rfl (hb hby d4_30) rfl rfl ?_
      show Steps p.tables e below (T6.setTop (mkF m 31 #[.val (.ref a1), .val (.int p2), .val (.int (c_w_de (p2).toNatClampNeg)), .val (.int (c_w_si ((c_w_de (p2).toNatClampNeg)).toNatClampNeg)), .unset, .unset] [(.ref a1), (.int (c_w_de (p2).toNatClampNeg)), (.ref w_ro)])) _
      refine st7 _ ?_
      show Steps p.tables e below (T7.setTop (mkF m 34 #[.val (.ref a1), .val (.int p2), .val (.int (c_w_de (p2).toNatClampNeg)), .val (.int (c_w_si ((c_w_de (p2).toNatClampNeg)).toNatClampNeg)), .unset, .unset] [(.ref w_ro), (.int (c_w_de (p2).toNatClampNeg)), (.ref w_ro)])) _
      refine XS.iloadN X7.here hx rfl (hb hby d4_34) rfl ?_
      show Steps p.tables e below (T7.setTop (mkF m 35 #[.val (.ref a1), .val (.int p2), .val (.int (c_w_de (p2).toNatClampNeg)), .val (.int (c_w_si ((c_w_de (p2).toNatClampNeg)).toNatClampNeg)), .unset, .unset] [(.int (c_w_de (p2).toNatClampNeg)), (.ref w_ro), (.int (c_w_de (p2).toNatClampNeg)), (.ref w_ro)])) _
      refine ldR X7 hx hZ e7 O_w_ro.1 rfl (j := (c_w_de (p2).toNatClampNeg)) (own_i4 (hd _) rfl) (g := (mkF m 35 #[.val (.ref a1), .val (.int p2), .val (.int (c_w_de (p2).toNatClampNeg)), .val (.int (c_w_si ((c_w_de (p2).toNatClampNeg)).toNatClampNeg)), .unset, .unset] [(.int (c_w_de (p2).toNatClampNeg)), (.ref w_ro), (.int (c_w_de (p2).toNatClampNeg)), (.ref w_ro)])) rfl rfl (hb hby d4_35) ?_
      show Steps p.tables e below (T7.setTop (mkF m 36 #[.val (.ref a1), .val (.int p2), .val (.int (c_w_de (p2).toNatClampNeg)), .val (.int (c_w_si ((c_w_de (p2).toNatClampNeg)).toNatClampNeg)), .unset, .unset] [(.ref (c_w_ro ((c_w_de (p2).toNatClampNeg)).toNatClampNeg)), (.int (c_w_de (p2).toNatClampNeg)), (.ref w_ro)])) _
      refine XS.iconst X7.here hx rfl (hb hby d4_36) ?_
      show Steps p.tables e below (T7.setTop (mkF m 37 #[.val (.ref a1), .val (.int p2), .val (.int (c_w_de (p2).toNatClampNeg)), .val (.int (c_w_si ((c_w_de (p2).toNatClampNeg)).toNatClampNeg)), .unset, .unset] [(.int (4 : Int32)), (.ref (c_w_ro ((c_w_de (p2).toNatClampNeg)).toNatClampNeg)), (.int (c_w_de (p2).toNatClampNeg)), (.ref w_ro)])) _
      refine XS.iconst X7.here hx rfl (hb hby d4_37) ?_
      show Steps p.tables e below (T7.setTop (mkF m 38 #[.val (.ref a1), .val (.int p2), .val (.int (c_w_de (p2).toNatClampNeg)), .val (.int (c_w_si ((c_w_de (p2).toNatClampNeg)).toNatClampNeg)), .unset, .unset] [(.int (2 : Int32)), (.int (4 : Int32)), (.ref (c_w_ro ((c_w_de (p2).toNatClampNeg)).toNatClampNeg)), (.int (c_w_de (p2).toNatClampNeg)), (.ref w_ro)])) _
      refine XS.iloadN X7.here hx rfl (hb hby d4_38) rfl ?_
      show Steps p.tables e below (T7.setTop (mkF m 39 #[.val (.ref a1), .val (.int p2), .val (.int (c_w_de (p2).toNatClampNeg)), .val (.int (c_w_si ((c_w_de (p2).toNatClampNeg)).toNatClampNeg)), .unset, .unset] [(.int (c_w_si ((c_w_de (p2).toNatClampNeg)).toNatClampNeg)), (.int (2 : Int32)), (.int (4 : Int32)), (.ref (c_w_ro ((c_w_de (p2).toNatClampNeg)).toNatClampNeg)), (.int (c_w_de (p2).toNatClampNeg)), (.ref w_ro)])) _
      refine XS.imul X7.here hx rfl (hb hby d4_39) rfl ?_
      show Steps p.tables e below (T7.setTop (mkF m 40 #[.val (.ref a1), .val (.int p2), .val (.int (c_w_de (p2).toNatClampNeg)), .val (.int (c_w_si ((c_w_de (p2).toNatClampNeg)).toNatClampNeg)), .unset, .unset] [(.int ((2 : Int32) * (c_w_si ((c_w_de (p2).toNatClampNeg)).toNatClampNeg))), (.int (4 : Int32)), (.ref (c_w_ro ((c_w_de (p2).toNatClampNeg)).toNatClampNeg)), (.int (c_w_de (p2).toNatClampNeg)), (.ref w_ro)])) _
      refine st8 _ ?_
      show Steps p.tables e below (T8.setTop (mkF m 43 #[.val (.ref a1), .val (.int p2), .val (.int (c_w_de (p2).toNatClampNeg)), .val (.int (c_w_si ((c_w_de (p2).toNatClampNeg)).toNatClampNeg)), .unset, .unset] [(.int (f5 (4 : Int32) ((2 : Int32) * (c_w_si ((c_w_de (p2).toNatClampNeg)).toNatClampNeg)))), (.ref (c_w_ro ((c_w_de (p2).toNatClampNeg)).toNatClampNeg)), (.int (c_w_de (p2).toNatClampNeg)), (.ref w_ro)])) _
      refine st9 _ ?_
      show Steps p.tables e below (T9.setTop (mkF m 46 #[.val (.ref a1), .val (.int p2), .val (.int (c_w_de (p2).toNatClampNeg)), .val (.int (c_w_si ((c_w_de (p2).toNatClampNeg)).toNatClampNeg)), .unset, .unset] [(.ref r9_0), (.int (c_w_de (p2).toNatClampNeg)), (.ref w_ro)])) _
      refine st21 _ ?_
      show Steps p.tables e below (T21.setTop (mkF m 47 #[.val (.ref a1), .val (.int p2), .val (.int (c_w_de (p2).toNatClampNeg)), .val (.int (c_w_si ((c_w_de (p2).toNatClampNeg)).toNatClampNeg)), .unset, .unset] [])) _
      refine XS.aloadN X21.here hx rfl (hb hby d4_47) rfl rfl ?_
      show Steps p.tables e below (T21.setTop (mkF m 48 #[.val (.ref a1), .val (.int p2), .val (.int (c_w_de (p2).toNatClampNeg)), .val (.int (c_w_si ((c_w_de (p2).toNatClampNeg)).toNatClampNeg)), .unset, .unset] [(.ref a1)])) _
      refine st35 _ ?_
      show Steps p.tables e below (T35.setTop (mkF m 51 #[.val (.ref a1), .val (.int p2), .val (.int (c_w_de (p2).toNatClampNeg)), .val (.int (c_w_si ((c_w_de (p2).toNatClampNeg)).toNatClampNeg)), .unset, .unset] [(.ref w_ro)])) _
      refine XS.iloadN X35.here hx rfl (hb hby d4_51) rfl ?_
      show Steps p.tables e below (T35.setTop (mkF m 52 #[.val (.ref a1), .val (.int p2), .val (.int (c_w_de (p2).toNatClampNeg)), .val (.int (c_w_si ((c_w_de (p2).toNatClampNeg)).toNatClampNeg)), .unset, .unset] [(.int (c_w_de (p2).toNatClampNeg)), (.ref w_ro)])) _
      refine ldR X35 hx hZ e35 c31.1 rfl (j := (c_w_de (p2).toNatClampNeg)) (own_i4 (hd _) rfl) (g := (mkF m 52 #[.val (.ref a1), .val (.int p2), .val (.int (c_w_de (p2).toNatClampNeg)), .val (.int (c_w_si ((c_w_de (p2).toNatClampNeg)).toNatClampNeg)), .unset, .unset] [(.int (c_w_de (p2).toNatClampNeg)), (.ref w_ro)])) rfl rfl (hb hby d4_52) ?_
      show Steps p.tables e below (T35.setTop (mkF m 53 #[.val (.ref a1), .val (.int p2), .val (.int (c_w_de (p2).toNatClampNeg)), .val (.int (c_w_si ((c_w_de (p2).toNatClampNeg)).toNatClampNeg)), .unset, .unset] [(.ref ((ownUR c_w_ro ((c_w_de (p2).toNatClampNeg)).toNatClampNeg r9_0) ((c_w_de (p2).toNatClampNeg)).toNatClampNeg))])) _
      refine XS.astore X35.here hx rfl (hb hby d4_53) rfl rfl (l' := #[.val (.ref a1), .val (.int p2), .val (.int (c_w_de (p2).toNatClampNeg)), .val (.int (c_w_si ((c_w_de (p2).toNatClampNeg)).toNatClampNeg)), .val (.ref ((ownUR c_w_ro ((c_w_de (p2).toNatClampNeg)).toNatClampNeg r9_0) ((c_w_de (p2).toNatClampNeg)).toNatClampNeg)), .unset]) rfl ?_
      show Steps p.tables e below (T35.setTop (mkF m 55 #[.val (.ref a1), .val (.int p2), .val (.int (c_w_de (p2).toNatClampNeg)), .val (.int (c_w_si ((c_w_de (p2).toNatClampNeg)).toNatClampNeg)), .val (.ref ((ownUR c_w_ro ((c_w_de (p2).toNatClampNeg)).toNatClampNeg r9_0) ((c_w_de (p2).toNatClampNeg)).toNatClampNeg)), .unset] [])) _
      refine XS.iloadN X35.here hx rfl (hb hby d4_55) rfl ?_
      show Steps p.tables e below (T35.setTop (mkF m 56 #[.val (.ref a1), .val (.int p2), .val (.int (c_w_de (p2).toNatClampNeg)), .val (.int (c_w_si ((c_w_de (p2).toNatClampNeg)).toNatClampNeg)), .val (.ref ((ownUR c_w_ro ((c_w_de (p2).toNatClampNeg)).toNatClampNeg r9_0) ((c_w_de (p2).toNatClampNeg)).toNatClampNeg)), .unset] [(.int (c_w_si ((c_w_de (p2).toNatClampNeg)).toNatClampNeg))])) _
      refine XS.istore X35.here hx rfl (hb hby d4_56) rfl (l' := #[.val (.ref a1), .val (.int p2), .val (.int (c_w_de (p2).toNatClampNeg)), .val (.int (c_w_si ((c_w_de (p2).toNatClampNeg)).toNatClampNeg)), .val (.ref ((ownUR c_w_ro ((c_w_de (p2).toNatClampNeg)).toNatClampNeg r9_0) ((c_w_de (p2).toNatClampNeg)).toNatClampNeg)), .val (.int (c_w_si ((c_w_de (p2).toNatClampNeg)).toNatClampNeg))]) rfl ?_
      show Steps p.tables e below (T35.setTop (mkF m 58 #[.val (.ref a1), .val (.int p2), .val (.int (c_w_de (p2).toNatClampNeg)), .val (.int (c_w_si ((c_w_de (p2).toNatClampNeg)).toNatClampNeg)), .val (.ref ((ownUR c_w_ro ((c_w_de (p2).toNatClampNeg)).toNatClampNeg r9_0) ((c_w_de (p2).toNatClampNeg)).toNatClampNeg)), .val (.int (c_w_si ((c_w_de (p2).toNatClampNeg)).toNatClampNeg))] [])) _
      refine XS.iload X35.here hx rfl (hb hby d4_58) rfl ?_
      show Steps p.tables e below (T35.setTop (mkF m 60 #[.val (.ref a1), .val (.int p2), .val (.int (c_w_de (p2).toNatClampNeg)), .val (.int (c_w_si ((c_w_de (p2).toNatClampNeg)).toNatClampNeg)), .val (.ref ((ownUR c_w_ro ((c_w_de (p2).toNatClampNeg)).toNatClampNeg r9_0) ((c_w_de (p2).toNatClampNeg)).toNatClampNeg)), .val (.int (c_w_si ((c_w_de (p2).toNatClampNeg)).toNatClampNeg))] [(.int (c_w_si ((c_w_de (p2).toNatClampNeg)).toNatClampNeg))])) _
      refine XS.ifYes X35.here hx rfl (pc0 := 60) (pc' := 96) rfl (hb hby d4_60) rfl ((if0 _ _).trans (flt (own_g60 (own_gz hJ (hd _) hi hc22).1 : ¬ ((0 : Int32) < (c_w_si ((c_w_de (p2).toNatClampNeg)).toNatClampNeg)))).2.2.2) (by decide) (by decide) ?_
      show Steps p.tables e below (T35.setTop (mkF m 96 #[.val (.ref a1), .val (.int p2), .val (.int (c_w_de (p2).toNatClampNeg)), .val (.int (c_w_si ((c_w_de (p2).toNatClampNeg)).toNatClampNeg)), .val (.ref ((ownUR c_w_ro ((c_w_de (p2).toNatClampNeg)).toNatClampNeg r9_0) ((c_w_de (p2).toNatClampNeg)).toNatClampNeg)), .val (.int (c_w_si ((c_w_de (p2).toNatClampNeg)).toNatClampNeg))] [])) _
      refine XS.aload X35.here hx rfl (hb hby d4_96) rfl rfl ?_
      show Steps p.tables e below (T35.setTop (mkF m 98 #[.val (.ref a1), .val (.int p2), .val (.int (c_w_de (p2).toNatClampNeg)), .val (.int (c_w_si ((c_w_de (p2).toNatClampNeg)).toNatClampNeg)), .val (.ref ((ownUR c_w_ro ((c_w_de (p2).toNatClampNeg)).toNatClampNeg r9_0) ((c_w_de (p2).toNatClampNeg)).toNatClampNeg)), .val (.int (c_w_si ((c_w_de (p2).toNatClampNeg)).toNatClampNeg))] [(.ref ((ownUR c_w_ro ((c_w_de (p2).toNatClampNeg)).toNatClampNeg r9_0) ((c_w_de (p2).toNatClampNeg)).toNatClampNeg))])) _
      refine XS.iload X35.here hx rfl (hb hby d4_98) rfl ?_
      show Steps p.tables e below (T35.setTop (mkF m 100 #[.val (.ref a1), .val (.int p2), .val (.int (c_w_de (p2).toNatClampNeg)), .val (.int (c_w_si ((c_w_de (p2).toNatClampNeg)).toNatClampNeg)), .val (.ref ((ownUR c_w_ro ((c_w_de (p2).toNatClampNeg)).toNatClampNeg r9_0) ((c_w_de (p2).toNatClampNeg)).toNatClampNeg)), .val (.int (c_w_si ((c_w_de (p2).toNatClampNeg)).toNatClampNeg))] [(.int (c_w_si ((c_w_de (p2).toNatClampNeg)).toNatClampNeg)), (.ref ((ownUR c_w_ro ((c_w_de (p2).toNatClampNeg)).toNatClampNeg r9_0) ((c_w_de (p2).toNatClampNeg)).toNatClampNeg))])) _
      refine XS.iloadN X35.here hx rfl (hb hby d4_100) rfl ?_
      show Steps p.tables e below (T35.setTop (mkF m 101 #[.val (.ref a1), .val (.int p2), .val (.int (c_w_de (p2).toNatClampNeg)), .val (.int (c_w_si ((c_w_de (p2).toNatClampNeg)).toNatClampNeg)), .val (.ref ((ownUR c_w_ro ((c_w_de (p2).toNatClampNeg)).toNatClampNeg r9_0) ((c_w_de (p2).toNatClampNeg)).toNatClampNeg)), .val (.int (c_w_si ((c_w_de (p2).toNatClampNeg)).toNatClampNeg))] [(.int p2), (.int (c_w_si ((c_w_de (p2).toNatClampNeg)).toNatClampNeg)), (.ref ((ownUR c_w_ro ((c_w_de (p2).toNatClampNeg)).toNatClampNeg r9_0) ((c_w_de (p2).toNatClampNeg)).toNatClampNeg))])) _
      refine st36 _ ?_
      show Steps p.tables e below (T36.setTop (mkF m 102 #[.val (.ref a1), .val (.int p2), .val (.int (c_w_de (p2).toNatClampNeg)), .val (.int (c_w_si ((c_w_de (p2).toNatClampNeg)).toNatClampNeg)), .val (.ref ((ownUR c_w_ro ((c_w_de (p2).toNatClampNeg)).toNatClampNeg r9_0) ((c_w_de (p2).toNatClampNeg)).toNatClampNeg)), .val (.int (c_w_si ((c_w_de (p2).toNatClampNeg)).toNatClampNeg))] [])) _
      refine XS.aloadN X36.here hx rfl (hb hby d4_102) rfl rfl ?_
      show Steps p.tables e below (T36.setTop (mkF m 103 #[.val (.ref a1), .val (.int p2), .val (.int (c_w_de (p2).toNatClampNeg)), .val (.int (c_w_si ((c_w_de (p2).toNatClampNeg)).toNatClampNeg)), .val (.ref ((ownUR c_w_ro ((c_w_de (p2).toNatClampNeg)).toNatClampNeg r9_0) ((c_w_de (p2).toNatClampNeg)).toNatClampNeg)), .val (.int (c_w_si ((c_w_de (p2).toNatClampNeg)).toNatClampNeg))] [(.ref a1)])) _
      refine st50 _ ?_
      show Steps p.tables e below (T50.setTop (mkF m 106 #[.val (.ref a1), .val (.int p2), .val (.int (c_w_de (p2).toNatClampNeg)), .val (.int (c_w_si ((c_w_de (p2).toNatClampNeg)).toNatClampNeg)), .val (.ref ((ownUR c_w_ro ((c_w_de (p2).toNatClampNeg)).toNatClampNeg r9_0) ((c_w_de (p2).toNatClampNeg)).toNatClampNeg)), .val (.int (c_w_si ((c_w_de (p2).toNatClampNeg)).toNatClampNeg))] [(.ref w_si)])) _
      refine XS.iloadN X50.here hx rfl (hb hby d4_106) rfl ?_
      show Steps p.tables e below (T50.setTop (mkF m 107 #[.val (.ref a1), .val (.int p2), .val (.int (c_w_de (p2).toNatClampNeg)), .val (.int (c_w_si ((c_w_de (p2).toNatClampNeg)).toNatClampNeg)), .val (.ref ((ownUR c_w_ro ((c_w_de (p2).toNatClampNeg)).toNatClampNeg r9_0) ((c_w_de (p2).toNatClampNeg)).toNatClampNeg)), .val (.int (c_w_si ((c_w_de (p2).toNatClampNeg)).toNatClampNeg))] [(.int (c_w_de (p2).toNatClampNeg)), (.ref w_si)])) _
      refine XS.iloadN X50.here hx rfl (hb hby d4_107) rfl ?_
      show Steps p.tables e below (T50.setTop (mkF m 108 #[.val (.ref a1), .val (.int p2), .val (.int (c_w_de (p2).toNatClampNeg)), .val (.int (c_w_si ((c_w_de (p2).toNatClampNeg)).toNatClampNeg)), .val (.ref ((ownUR c_w_ro ((c_w_de (p2).toNatClampNeg)).toNatClampNeg r9_0) ((c_w_de (p2).toNatClampNeg)).toNatClampNeg)), .val (.int (c_w_si ((c_w_de (p2).toNatClampNeg)).toNatClampNeg))] [(.int (c_w_si ((c_w_de (p2).toNatClampNeg)).toNatClampNeg)), (.int (c_w_de (p2).toNatClampNeg)), (.ref w_si)])) _
      refine XS.iconst X50.here hx rfl (hb hby d4_108) ?_
      show Steps p.tables e below (T50.setTop (mkF m 109 #[.val (.ref a1), .val (.int p2), .val (.int (c_w_de (p2).toNatClampNeg)), .val (.int (c_w_si ((c_w_de (p2).toNatClampNeg)).toNatClampNeg)), .val (.ref ((ownUR c_w_ro ((c_w_de (p2).toNatClampNeg)).toNatClampNeg r9_0) ((c_w_de (p2).toNatClampNeg)).toNatClampNeg)), .val (.int (c_w_si ((c_w_de (p2).toNatClampNeg)).toNatClampNeg))] [(.int (1 : Int32)), (.int (c_w_si ((c_w_de (p2).toNatClampNeg)).toNatClampNeg)), (.int (c_w_de (p2).toNatClampNeg)), (.ref w_si)])) _
      refine XS.iadd X50.here hx rfl (hb hby d4_109) rfl ?_
      show Steps p.tables e below (T50.setTop (mkF m 110 #[.val (.ref a1), .val (.int p2), .val (.int (c_w_de (p2).toNatClampNeg)), .val (.int (c_w_si ((c_w_de (p2).toNatClampNeg)).toNatClampNeg)), .val (.ref ((ownUR c_w_ro ((c_w_de (p2).toNatClampNeg)).toNatClampNeg r9_0) ((c_w_de (p2).toNatClampNeg)).toNatClampNeg)), .val (.int (c_w_si ((c_w_de (p2).toNatClampNeg)).toNatClampNeg))] [(.int ((c_w_si ((c_w_de (p2).toNatClampNeg)).toNatClampNeg) + (1 : Int32))), (.int (c_w_de (p2).toNatClampNeg)), (.ref w_si)])) _
      refine st51 _ ?_
      show Steps p.tables e below (T51.setTop (mkF m 111 #[.val (.ref a1), .val (.int p2), .val (.int (c_w_de (p2).toNatClampNeg)), .val (.int (c_w_si ((c_w_de (p2).toNatClampNeg)).toNatClampNeg)), .val (.ref ((ownUR c_w_ro ((c_w_de (p2).toNatClampNeg)).toNatClampNeg r9_0) ((c_w_de (p2).toNatClampNeg)).toNatClampNeg)), .val (.int (c_w_si ((c_w_de (p2).toNatClampNeg)).toNatClampNeg))] [])) _
      exact X51.returnOut hx Bd.returns (hb hby d4_111) hr
    · show Q4 Z a1 p2 w_de w_ar w_ro w_si z_w_de c_w_de z_w_ar c_w_ar z_w_si c_w_si c_w_ro n_w_ro f_w_ro m_w_ro h0 n0 _ T51.heap _
      rw [e51]
      exact ⟨(ownUR c_w_ro ((c_w_de (p2).toNatClampNeg)).toNatClampNeg r9_0), rfl, N51, c62, (by rw [eq2]; exact c60), (by rw [eq3, eq4]; exact c61)⟩
  · obtain ⟨T64, X64, e64, st64⟩ := getF X5 hx hZ hown (host := "") (Or.inl (hw _ (List.mem_of_getElem? (i := 20) rfl))) Via.refl e5 F_rows_a1 (g := (mkF m 48 #[.val (.ref a1), .val (.int p2), .val (.int (c_w_de (p2).toNatClampNeg)), .val (.int (c_w_si ((c_w_de (p2).toNatClampNeg)).toNatClampNeg)), .unset, .unset] [(.ref a1)])) rfl rfl (hb hby d4_48)
    have pre5 : ∀ t, Steps p.tables e below (T64.setTop (mkF m 58 #[.val (.ref a1), .val (.int p2), .val (.int (c_w_de (p2).toNatClampNeg)), .val (.int (c_w_si ((c_w_de (p2).toNatClampNeg)).toNatClampNeg)), .val (.ref (c_w_ro ((c_w_de (p2).toNatClampNeg)).toNatClampNeg)), .val (.int (c_w_si ((c_w_de (p2).toNatClampNeg)).toNatClampNeg))] [])) t → Steps p.tables e below (s₁.setTop (entryFrame m #[(.ref a1), (.int p2)] 6)) t := by
      intro t k
      refine pre1 t ?_
      show Steps p.tables e below (T5.setTop (mkF m 22 #[.val (.ref a1), .val (.int p2), .val (.int (c_w_de (p2).toNatClampNeg)), .val (.int (c_w_si ((c_w_de (p2).toNatClampNeg)).toNatClampNeg)), .unset, .unset] [(.int (n_w_ro ((c_w_de (p2).toNatClampNeg)).toNatClampNeg)), (.int (c_w_si ((c_w_de (p2).toNatClampNeg)).toNatClampNeg))])) _
      refine XS.icmpYes X5.here hx rfl (pc0 := 22) (pc' := 47) rfl (hb hby d4_22) rfl (feq hc22).2 (by decide) (by decide) ?_
      show Steps p.tables e below (T5.setTop (mkF m 47 #[.val (.ref a1), .val (.int p2), .val (.int (c_w_de (p2).toNatClampNeg)), .val (.int (c_w_si ((c_w_de (p2).toNatClampNeg)).toNatClampNeg)), .unset, .unset] [])) _
      refine XS.aloadN X5.here hx rfl (hb hby d4_47) rfl rfl ?_
      show Steps p.tables e below (T5.setTop (mkF m 48 #[.val (.ref a1), .val (.int p2), .val (.int (c_w_de (p2).toNatClampNeg)), .val (.int (c_w_si ((c_w_de (p2).toNatClampNeg)).toNatClampNeg)), .unset, .unset] [(.ref a1)])) _
      refine st64 _ ?_
      show Steps p.tables e below (T64.setTop (mkF m 51 #[.val (.ref a1), .val (.int p2), .val (.int (c_w_de (p2).toNatClampNeg)), .val (.int (c_w_si ((c_w_de (p2).toNatClampNeg)).toNatClampNeg)), .unset, .unset] [(.ref w_ro)])) _
      refine XS.iloadN X64.here hx rfl (hb hby d4_51) rfl ?_
      show Steps p.tables e below (T64.setTop (mkF m 52 #[.val (.ref a1), .val (.int p2), .val (.int (c_w_de (p2).toNatClampNeg)), .val (.int (c_w_si ((c_w_de (p2).toNatClampNeg)).toNatClampNeg)), .unset, .unset] [(.int (c_w_de (p2).toNatClampNeg)), (.ref w_ro)])) _
      refine ldR X64 hx hZ e64 O_w_ro.1 rfl (j := (c_w_de (p2).toNatClampNeg)) (own_i4 (hd _) rfl) (g := (mkF m 52 #[.val (.ref a1), .val (.int p2), .val (.int (c_w_de (p2).toNatClampNeg)), .val (.int (c_w_si ((c_w_de (p2).toNatClampNeg)).toNatClampNeg)), .unset, .unset] [(.int (c_w_de (p2).toNatClampNeg)), (.ref w_ro)])) rfl rfl (hb hby d4_52) ?_
      show Steps p.tables e below (T64.setTop (mkF m 53 #[.val (.ref a1), .val (.int p2), .val (.int (c_w_de (p2).toNatClampNeg)), .val (.int (c_w_si ((c_w_de (p2).toNatClampNeg)).toNatClampNeg)), .unset, .unset] [(.ref (c_w_ro ((c_w_de (p2).toNatClampNeg)).toNatClampNeg))])) _
      refine XS.astore X64.here hx rfl (hb hby d4_53) rfl rfl (l' := #[.val (.ref a1), .val (.int p2), .val (.int (c_w_de (p2).toNatClampNeg)), .val (.int (c_w_si ((c_w_de (p2).toNatClampNeg)).toNatClampNeg)), .val (.ref (c_w_ro ((c_w_de (p2).toNatClampNeg)).toNatClampNeg)), .unset]) rfl ?_
      show Steps p.tables e below (T64.setTop (mkF m 55 #[.val (.ref a1), .val (.int p2), .val (.int (c_w_de (p2).toNatClampNeg)), .val (.int (c_w_si ((c_w_de (p2).toNatClampNeg)).toNatClampNeg)), .val (.ref (c_w_ro ((c_w_de (p2).toNatClampNeg)).toNatClampNeg)), .unset] [])) _
      refine XS.iloadN X64.here hx rfl (hb hby d4_55) rfl ?_
      show Steps p.tables e below (T64.setTop (mkF m 56 #[.val (.ref a1), .val (.int p2), .val (.int (c_w_de (p2).toNatClampNeg)), .val (.int (c_w_si ((c_w_de (p2).toNatClampNeg)).toNatClampNeg)), .val (.ref (c_w_ro ((c_w_de (p2).toNatClampNeg)).toNatClampNeg)), .unset] [(.int (c_w_si ((c_w_de (p2).toNatClampNeg)).toNatClampNeg))])) _
      refine XS.istore X64.here hx rfl (hb hby d4_56) rfl (l' := #[.val (.ref a1), .val (.int p2), .val (.int (c_w_de (p2).toNatClampNeg)), .val (.int (c_w_si ((c_w_de (p2).toNatClampNeg)).toNatClampNeg)), .val (.ref (c_w_ro ((c_w_de (p2).toNatClampNeg)).toNatClampNeg)), .val (.int (c_w_si ((c_w_de (p2).toNatClampNeg)).toNatClampNeg))]) rfl ?_
      exact k
    have loop58 : ∀ (k : Nat) (i5 : Int32) (y0 : Nat → Nat → Int32) (T65 : State) (LT65 : List Loc) (h65 : Heap), 0 ≤ i5.toInt ∧ i5.toInt ≤ 2 ∧ (∀ D j, 0 ≤ (y0 D j).toInt ∧ (y0 D j).toInt < 3) ∧ i5.toInt < (k : Int) → Stand p l e ({ frames := 2, cells := 1, slots := 4, locals := 43 } : Room) s m #[(.ref a1), (.int p2)] below meth c T65 LT65 0 0 → T65.heap = h65 → Fr n0 LT65 → n0 ≤ h65.size → Exa Z h65 a1 "com/example/podflow/podflow/simulation/Arrivals" → Fld Z h65 a1 "com/example/podflow/podflow/simulation/Arrivals" "destination" "[I" (.ref w_de) → Fld Z h65 a1 "com/example/podflow/podflow/simulation/Arrivals" "arrival" "[J" (.ref w_ar) → Fld Z h65 a1 "com/example/podflow/podflow/simulation/Arrivals" "rows" "[[I" (.ref w_ro) → Fld Z h65 a1 "com/example/podflow/podflow/simulation/Arrivals" "sizes" "[I" (.ref w_si) → IAr Z h65 w_de .int z_w_de c_w_de → LAr Z h65 w_ar  z_w_ar c_w_ar → IAr Z h65 w_si .int z_w_si c_w_si → OwnR Z h65 w_ro c_w_ro n_w_ro y0 [w_si, a1, w_de, w_ar] m_w_ro → Keep h0 h65 [w_ro, w_si, (c_w_ro ((c_w_de (p2).toNatClampNeg)).toNatClampNeg)] → (g4_58 p2 z_w_de c_w_de z_w_ar c_w_ar z_w_si c_w_si n_w_ro f_w_ro k i5 y0) = (f4_o0 p2 z_w_de c_w_de z_w_ar c_w_ar z_w_si c_w_si n_w_ro f_w_ro) → (g4_58_1 p2 z_w_de c_w_de z_w_ar c_w_ar z_w_si c_w_si n_w_ro f_w_ro k i5 y0) = (f4_rn p2 z_w_de c_w_de z_w_ar c_w_ar z_w_si c_w_si n_w_ro f_w_ro) → (g4_58_2 p2 z_w_de c_w_de z_w_ar c_w_ar z_w_si c_w_si n_w_ro f_w_ro k i5 y0) = (f4_rf p2 z_w_de c_w_de z_w_ar c_w_ar z_w_si c_w_si n_w_ro f_w_ro) → (∀ t, Steps p.tables e below (T65.setTop (mkF m 58 #[.val (.ref a1), .val (.int p2), .val (.int (c_w_de (p2).toNatClampNeg)), .val (.int (c_w_si ((c_w_de (p2).toNatClampNeg)).toNatClampNeg)), .val (.ref (c_w_ro ((c_w_de (p2).toNatClampNeg)).toNatClampNeg)), .val (.int i5)] [])) t → Steps p.tables e below (s₁.setTop (entryFrame m #[(.ref a1), (.int p2)] 6)) t) → ∃ s₂ o, Steps p.tables e below (s₁.setTop (entryFrame m #[(.ref a1), (.int p2)] 6)) s₂ ∧ s₂.status = .running ∧ Ended s₂ below o ∧ ∃ v L, o = .returned v ∧ Q4 Z a1 p2 w_de w_ar w_ro w_si z_w_de c_w_de z_w_ar c_w_ar z_w_si c_w_si c_w_ro n_w_ro f_w_ro m_w_ro h0 n0 v s₂.heap L ∧ FrameEnd s o s₂ L ({ frames := 2, cells := 1, slots := 4, locals := 43 } : Room).cells ({ frames := 2, cells := 1, slots := 4, locals := 43 } : Room).slots := by
      intro k
      induction k with
      | zero => intro i5 y0 T65 LT65 h65 hI X65 e65 N65 c66 c67 c68 c69 c70 c71 c72 c73 c74 c75 c76 hg0 hg1 hg2 preL; exact absurd hI (fun h => by have h1 := h.1; have h2 := h.2.2.2; omega)
      | succ k ih =>
        intro i5 y0 T65 LT65 h65 hI X65 e65 N65 c66 c67 c68 c69 c70 c71 c72 c73 c74 c75 c76 hg0 hg1 hg2 preL
        have pre6 : ∀ t, Steps p.tables e below (T65.setTop (mkF m 60 #[.val (.ref a1), .val (.int p2), .val (.int (c_w_de (p2).toNatClampNeg)), .val (.int (c_w_si ((c_w_de (p2).toNatClampNeg)).toNatClampNeg)), .val (.ref (c_w_ro ((c_w_de (p2).toNatClampNeg)).toNatClampNeg)), .val (.int i5)] [(.int i5)])) t → Steps p.tables e below (s₁.setTop (entryFrame m #[(.ref a1), (.int p2)] 6)) t := by
          intro t k
          refine preL t ?_
          show Steps p.tables e below (T65.setTop (mkF m 58 #[.val (.ref a1), .val (.int p2), .val (.int (c_w_de (p2).toNatClampNeg)), .val (.int (c_w_si ((c_w_de (p2).toNatClampNeg)).toNatClampNeg)), .val (.ref (c_w_ro ((c_w_de (p2).toNatClampNeg)).toNatClampNeg)), .val (.int i5)] [])) _
          refine XS.iload X65.here hx rfl (hb hby d4_58) rfl ?_
          exact k
        by_cases hc60 : (0 : Int32) < i5
        · obtain ⟨cq77, q77, q77'⟩ := c67.cell
          obtain ⟨_, _, ⟨T77, L77, k77, n77⟩, -, X77, ⟨Lc77, hQ77, l77, y77, z77⟩, st77⟩ := X65.privateBack hx (y := (⟨"com/example/podflow/podflow/simulation/Arrivals", "comesAfter", "(II)Z"⟩ : MethodName)) hown (mvT hZ (hw _ (List.mem_of_getElem? (i := 45) rfl))) (mvT hZ (hw _ (List.mem_of_getElem? (i := 46) rfl))) (own_selp (mvT hZ (hw _ (List.mem_of_getElem? (i := 3) rfl))) (mvT hZ (hw _ (List.mem_of_getElem? (i := 46) rfl))) (Cond.privateMethod_at (mvP hZ (hw _ (List.mem_of_getElem? (i := 47) rfl)) (args := #[]))) (by decide)) (Cond.privateMethod_at (mvP hZ (hw _ (List.mem_of_getElem? (i := 47) rfl)) (args := #[]))) (mvT hZ (hw _ (List.mem_of_getElem? (i := 48) rfl))) (by decide) (backOf (W := 0) (rm8 l Z a0 hw [] a1 ((y0 ((c_w_de (p2).toNatClampNeg)).toNatClampNeg) ((i5 - (1 : Int32))).toNatClampNeg) p2 w_ar z_w_ar c_w_ar h65 n0 c66 c69 c73 (hI.2.2.1 _ _) hi hl.2.1) hZ (hw _ (List.mem_of_getElem? (i := 48) rfl)) (hw _ (List.mem_of_getElem? (i := 4) rfl)) (by decide) (by decide)) (g := (mkF m 72 #[.val (.ref a1), .val (.int p2), .val (.int (c_w_de (p2).toNatClampNeg)), .val (.int (c_w_si ((c_w_de (p2).toNatClampNeg)).toNatClampNeg)), .val (.ref (c_w_ro ((c_w_de (p2).toNatClampNeg)).toNatClampNeg)), .val (.int i5)] [(.int p2), (.int ((y0 ((c_w_de (p2).toNatClampNeg)).toNatClampNeg) ((i5 - (1 : Int32))).toNatClampNeg)), (.ref a1)])) rfl (by rw [hml]; rfl) (Steps.refl _) (a := a1) (by rw [e65]; exact q77) q77' (argsL := [(.int ((y0 ((c_w_de (p2).toNatClampNeg)).toNatClampNeg) ((i5 - (1 : Int32))).toNatClampNeg)), (.int p2)]) (rest := []) (lenOf pd_2 rfl) rfl (by show 2 * 0 + _ ≤ _; exact Nat.le_of_eq rfl) (hb hby d4_72) (fun _ _ => ⟨rfl, e65, (by decide : 0 + 0 ≤ _), (by decide : 0 + 0 ≤ _)⟩)
          dsimp only [Pt.U, Pt.locs, Pt.cells, Pt.slots] at X77 l77 y77 z77 st77 hQ77
          subst l77 y77 z77
          obtain ⟨rfl, N77q, e77⟩ := hQ77
          have N77 := Fr.app N65 N77q
          have pre7 : ∀ t, Steps p.tables e below (T77.setTop (mkF m 75 #[.val (.ref a1), .val (.int p2), .val (.int (c_w_de (p2).toNatClampNeg)), .val (.int (c_w_si ((c_w_de (p2).toNatClampNeg)).toNatClampNeg)), .val (.ref (c_w_ro ((c_w_de (p2).toNatClampNeg)).toNatClampNeg)), .val (.int i5)] [(.int (f8 ((y0 ((c_w_de (p2).toNatClampNeg)).toNatClampNeg) ((i5 - (1 : Int32))).toNatClampNeg) p2 z_w_ar c_w_ar))])) t → Steps p.tables e below (s₁.setTop (entryFrame m #[(.ref a1), (.int p2)] 6)) t := by
            intro t k
            refine pre6 t ?_
            show Steps p.tables e below (T65.setTop (mkF m 60 #[.val (.ref a1), .val (.int p2), .val (.int (c_w_de (p2).toNatClampNeg)), .val (.int (c_w_si ((c_w_de (p2).toNatClampNeg)).toNatClampNeg)), .val (.ref (c_w_ro ((c_w_de (p2).toNatClampNeg)).toNatClampNeg)), .val (.int i5)] [(.int i5)])) _
            refine XS.ifNo X65.here hx rfl (hb hby d4_60) rfl ((if0 _ _).trans (tlt hc60).2.2.2) ?_
            show Steps p.tables e below (T65.setTop (mkF m 63 #[.val (.ref a1), .val (.int p2), .val (.int (c_w_de (p2).toNatClampNeg)), .val (.int (c_w_si ((c_w_de (p2).toNatClampNeg)).toNatClampNeg)), .val (.ref (c_w_ro ((c_w_de (p2).toNatClampNeg)).toNatClampNeg)), .val (.int i5)] [])) _
            refine XS.aloadN X65.here hx rfl (hb hby d4_63) rfl rfl ?_
            show Steps p.tables e below (T65.setTop (mkF m 64 #[.val (.ref a1), .val (.int p2), .val (.int (c_w_de (p2).toNatClampNeg)), .val (.int (c_w_si ((c_w_de (p2).toNatClampNeg)).toNatClampNeg)), .val (.ref (c_w_ro ((c_w_de (p2).toNatClampNeg)).toNatClampNeg)), .val (.int i5)] [(.ref a1)])) _
            refine XS.aload X65.here hx rfl (hb hby d4_64) rfl rfl ?_
            show Steps p.tables e below (T65.setTop (mkF m 66 #[.val (.ref a1), .val (.int p2), .val (.int (c_w_de (p2).toNatClampNeg)), .val (.int (c_w_si ((c_w_de (p2).toNatClampNeg)).toNatClampNeg)), .val (.ref (c_w_ro ((c_w_de (p2).toNatClampNeg)).toNatClampNeg)), .val (.int i5)] [(.ref (c_w_ro ((c_w_de (p2).toNatClampNeg)).toNatClampNeg)), (.ref a1)])) _
            refine XS.iload X65.here hx rfl (hb hby d4_66) rfl ?_
            show Steps p.tables e below (T65.setTop (mkF m 68 #[.val (.ref a1), .val (.int p2), .val (.int (c_w_de (p2).toNatClampNeg)), .val (.int (c_w_si ((c_w_de (p2).toNatClampNeg)).toNatClampNeg)), .val (.ref (c_w_ro ((c_w_de (p2).toNatClampNeg)).toNatClampNeg)), .val (.int i5)] [(.int i5), (.ref (c_w_ro ((c_w_de (p2).toNatClampNeg)).toNatClampNeg)), (.ref a1)])) _
            refine XS.iconst X65.here hx rfl (hb hby d4_68) ?_
            show Steps p.tables e below (T65.setTop (mkF m 69 #[.val (.ref a1), .val (.int p2), .val (.int (c_w_de (p2).toNatClampNeg)), .val (.int (c_w_si ((c_w_de (p2).toNatClampNeg)).toNatClampNeg)), .val (.ref (c_w_ro ((c_w_de (p2).toNatClampNeg)).toNatClampNeg)), .val (.int i5)] [(.int (1 : Int32)), (.int i5), (.ref (c_w_ro ((c_w_de (p2).toNatClampNeg)).toNatClampNeg)), (.ref a1)])) _
            refine XS.isub X65.here hx rfl (hb hby d4_69) rfl ?_
            show Steps p.tables e below (T65.setTop (mkF m 70 #[.val (.ref a1), .val (.int p2), .val (.int (c_w_de (p2).toNatClampNeg)), .val (.int (c_w_si ((c_w_de (p2).toNatClampNeg)).toNatClampNeg)), .val (.ref (c_w_ro ((c_w_de (p2).toNatClampNeg)).toNatClampNeg)), .val (.int i5)] [(.int (i5 - (1 : Int32))), (.ref (c_w_ro ((c_w_de (p2).toNatClampNeg)).toNatClampNeg)), (.ref a1)])) _
            refine ldI X65 hx hZ e65 (c75.2.2.2.1 ((c_w_de (p2).toNatClampNeg)).toNatClampNeg (own_d4 (hd _))).1 (j := (i5 - (1 : Int32))) (own_a1 hI hJ (hd _) hi hc22 hc60) (g := (mkF m 70 #[.val (.ref a1), .val (.int p2), .val (.int (c_w_de (p2).toNatClampNeg)), .val (.int (c_w_si ((c_w_de (p2).toNatClampNeg)).toNatClampNeg)), .val (.ref (c_w_ro ((c_w_de (p2).toNatClampNeg)).toNatClampNeg)), .val (.int i5)] [(.int (i5 - (1 : Int32))), (.ref (c_w_ro ((c_w_de (p2).toNatClampNeg)).toNatClampNeg)), (.ref a1)])) rfl rfl (hb hby d4_70) ?_
            show Steps p.tables e below (T65.setTop (mkF m 71 #[.val (.ref a1), .val (.int p2), .val (.int (c_w_de (p2).toNatClampNeg)), .val (.int (c_w_si ((c_w_de (p2).toNatClampNeg)).toNatClampNeg)), .val (.ref (c_w_ro ((c_w_de (p2).toNatClampNeg)).toNatClampNeg)), .val (.int i5)] [(.int ((y0 ((c_w_de (p2).toNatClampNeg)).toNatClampNeg) ((i5 - (1 : Int32))).toNatClampNeg)), (.ref a1)])) _
            refine XS.iloadN X65.here hx rfl (hb hby d4_71) rfl ?_
            show Steps p.tables e below (T65.setTop (mkF m 72 #[.val (.ref a1), .val (.int p2), .val (.int (c_w_de (p2).toNatClampNeg)), .val (.int (c_w_si ((c_w_de (p2).toNatClampNeg)).toNatClampNeg)), .val (.ref (c_w_ro ((c_w_de (p2).toNatClampNeg)).toNatClampNeg)), .val (.int i5)] [(.int p2), (.int ((y0 ((c_w_de (p2).toNatClampNeg)).toNatClampNeg) ((i5 - (1 : Int32))).toNatClampNeg)), (.ref a1)])) _
            refine st77.trans ?_
            exact k
          by_cases hc75 : (f8 ((y0 ((c_w_de (p2).toNatClampNeg)).toNatClampNeg) ((i5 - (1 : Int32))).toNatClampNeg) p2 z_w_ar c_w_ar) = (0 : Int32)
          · obtain ⟨T78, h78, X78, e78, W78, V78, st78⟩ := sI X77 hx hZ e77 (c75.2.2.2.1 ((c_w_de (p2).toNatClampNeg)).toNatClampNeg (own_d4 (hd _))).1 (j := i5) (own_a2 hI hJ (hd _) hi hc22) (g := (mkF m 101 #[.val (.ref a1), .val (.int p2), .val (.int (c_w_de (p2).toNatClampNeg)), .val (.int (c_w_si ((c_w_de (p2).toNatClampNeg)).toNatClampNeg)), .val (.ref (c_w_ro ((c_w_de (p2).toNatClampNeg)).toNatClampNeg)), .val (.int i5)] [(.int p2), (.int i5), (.ref (c_w_ro ((c_w_de (p2).toNatClampNeg)).toNatClampNeg))])) rfl rfl (hb hby d4_101)
            have N78 := Fr.snoc X78 N77 (Nat.le_trans hm_w_ro (c75.2.2.2.1 ((c_w_de (p2).toNatClampNeg)).toNatClampNeg (own_d4 (hd _))).2.1)
            have c79 : n0 ≤ h78.size := Nat.le_trans c66 (Keep.of_wr W78).1
            have c80 : Exa Z h78 a1 "com/example/podflow/podflow/simulation/Arrivals" := c67.wr W78
            have c81 : Fld Z h78 a1 "com/example/podflow/podflow/simulation/Arrivals" "destination" "[I" (.ref w_de) := c68.other W78 (Or.inl (Ne.symm ((c75.2.2.2.2.2 _ (List.mem_of_getElem? (i := 1) rfl)).2 _ (own_d4 (hd _)))))
            have c82 : Fld Z h78 a1 "com/example/podflow/podflow/simulation/Arrivals" "arrival" "[J" (.ref w_ar) := c69.other W78 (Or.inl (Ne.symm ((c75.2.2.2.2.2 _ (List.mem_of_getElem? (i := 1) rfl)).2 _ (own_d4 (hd _)))))
            have c83 : Fld Z h78 a1 "com/example/podflow/podflow/simulation/Arrivals" "rows" "[[I" (.ref w_ro) := c70.other W78 (Or.inl (Ne.symm ((c75.2.2.2.2.2 _ (List.mem_of_getElem? (i := 1) rfl)).2 _ (own_d4 (hd _)))))
            have c84 : Fld Z h78 a1 "com/example/podflow/podflow/simulation/Arrivals" "sizes" "[I" (.ref w_si) := c71.other W78 (Or.inl (Ne.symm ((c75.2.2.2.2.2 _ (List.mem_of_getElem? (i := 1) rfl)).2 _ (own_d4 (hd _)))))
            have c85 : IAr Z h78 w_de .int z_w_de c_w_de := c72.other W78 (Ne.symm ((c75.2.2.2.2.2 _ (List.mem_of_getElem? (i := 2) rfl)).2 _ (own_d4 (hd _))))
            have c86 : LAr Z h78 w_ar  z_w_ar c_w_ar := c73.other W78 (Ne.symm ((c75.2.2.2.2.2 _ (List.mem_of_getElem? (i := 3) rfl)).2 _ (own_d4 (hd _))))
            have c87 : IAr Z h78 w_si .int z_w_si c_w_si := c74.other W78 (Ne.symm ((c75.2.2.2.2.2 _ (List.mem_of_getElem? (i := 0) rfl)).2 _ (own_d4 (hd _))))
            have c88 : OwnR Z h78 w_ro c_w_ro n_w_ro (ownUF y0 ((c_w_de (p2).toNatClampNeg)).toNatClampNeg (ownU (y0 ((c_w_de (p2).toNatClampNeg)).toNatClampNeg) (i5).toNatClampNeg p2)) [w_si, a1, w_de, w_ar] m_w_ro := c75.set (own_d4 (hd _)) W78
            have c89 : Keep h0 h78 [w_ro, w_si, (c_w_ro ((c_w_de (p2).toNatClampNeg)).toNatClampNeg)] := c76.wr W78 (Or.inl (List.mem_of_getElem? (i := 2) rfl))
            obtain ⟨T90, X90, e90, st90⟩ := getF X78 hx hZ hown (host := "") (Or.inl (hw _ (List.mem_of_getElem? (i := 22) rfl))) Via.refl e78 c84 (g := (mkF m 103 #[.val (.ref a1), .val (.int p2), .val (.int (c_w_de (p2).toNatClampNeg)), .val (.int (c_w_si ((c_w_de (p2).toNatClampNeg)).toNatClampNeg)), .val (.ref (c_w_ro ((c_w_de (p2).toNatClampNeg)).toNatClampNeg)), .val (.int i5)] [(.ref a1)])) rfl rfl (hb hby d4_103)
            obtain ⟨T91, h91, X91, e91, W91, V91, st91⟩ := sI X90 hx hZ e90 c87 (j := (c_w_de (p2).toNatClampNeg)) (own_i4 (hd _) hl.2.2) (g := (mkF m 110 #[.val (.ref a1), .val (.int p2), .val (.int (c_w_de (p2).toNatClampNeg)), .val (.int (c_w_si ((c_w_de (p2).toNatClampNeg)).toNatClampNeg)), .val (.ref (c_w_ro ((c_w_de (p2).toNatClampNeg)).toNatClampNeg)), .val (.int i5)] [(.int ((c_w_si ((c_w_de (p2).toNatClampNeg)).toNatClampNeg) + (1 : Int32))), (.int (c_w_de (p2).toNatClampNeg)), (.ref w_si)])) rfl rfl (hb hby d4_110)
            have N91 := Fr.snoc X91 N78 g_w_si
            have c92 : n0 ≤ h91.size := Nat.le_trans c79 (Keep.of_wr W91).1
            have c93 : Exa Z h91 a1 "com/example/podflow/podflow/simulation/Arrivals" := c80.wr W91
            have c94 : Fld Z h91 a1 "com/example/podflow/podflow/simulation/Arrivals" "destination" "[I" (.ref w_de) := c81.other W91 (Or.inl (Ne.symm ne_w_si_a1))
            have c95 : Fld Z h91 a1 "com/example/podflow/podflow/simulation/Arrivals" "arrival" "[J" (.ref w_ar) := c82.other W91 (Or.inl (Ne.symm ne_w_si_a1))
            have c96 : Fld Z h91 a1 "com/example/podflow/podflow/simulation/Arrivals" "rows" "[[I" (.ref w_ro) := c83.other W91 (Or.inl (Ne.symm ne_w_si_a1))
            have c97 : Fld Z h91 a1 "com/example/podflow/podflow/simulation/Arrivals" "sizes" "[I" (.ref w_si) := c84.other W91 (Or.inl (Ne.symm ne_w_si_a1))
            have c98 : IAr Z h91 w_de .int z_w_de c_w_de := c85.other W91 (Ne.symm ne_w_si_w_de)
            have c99 : LAr Z h91 w_ar  z_w_ar c_w_ar := c86.other W91 (Ne.symm ne_w_si_w_ar)
            have c100 : IAr Z h91 w_si .int z_w_si (ownU c_w_si ((c_w_de (p2).toNatClampNeg)).toNatClampNeg ((c_w_si ((c_w_de (p2).toNatClampNeg)).toNatClampNeg) + (1 : Int32))) := V91
            have c101 : OwnR Z h91 w_ro c_w_ro n_w_ro (ownUF y0 ((c_w_de (p2).toNatClampNeg)).toNatClampNeg (ownU (y0 ((c_w_de (p2).toNatClampNeg)).toNatClampNeg) (i5).toNatClampNeg p2)) [w_si, a1, w_de, w_ar] m_w_ro := c88.other W91 (List.mem_of_getElem? (i := 0) rfl)
            have c102 : Keep h0 h91 [w_ro, w_si, (c_w_ro ((c_w_de (p2).toNatClampNeg)).toNatClampNeg)] := c89.wr W91 (Or.inl (List.mem_of_getElem? (i := 1) rfl))
            have eq8 : (f4_o0 p2 z_w_de c_w_de z_w_ar c_w_ar z_w_si c_w_si n_w_ro f_w_ro) = (ownU c_w_si ((c_w_de (p2).toNatClampNeg)).toNatClampNeg ((c_w_si ((c_w_de (p2).toNatClampNeg)).toNatClampNeg) + (1 : Int32))) := by rw [← hg0]; simp only [g4_58, if_pos hc60, if_pos hc75]
            have eq9 : (f4_rn p2 z_w_de c_w_de z_w_ar c_w_ar z_w_si c_w_si n_w_ro f_w_ro) = n_w_ro := by rw [← hg1]; simp only [g4_58_1, if_pos hc60, if_pos hc75]
            have eq10 : (f4_rf p2 z_w_de c_w_de z_w_ar c_w_ar z_w_si c_w_si n_w_ro f_w_ro) = (ownUF y0 ((c_w_de (p2).toNatClampNeg)).toNatClampNeg (ownU (y0 ((c_w_de (p2).toNatClampNeg)).toNatClampNeg) (i5).toNatClampNeg p2)) := by rw [← hg2]; simp only [g4_58_2, if_pos hc60, if_pos hc75]
            obtain ⟨fs, hr, hrun, hended, hW, hsame⟩ := X91.leave (v := none) (fun _ => rfl)
            refine ⟨_, _, pre7 _ ?_, hrun, hended, _, _, rfl, ?_, ⟨_, rfl⟩, hW, hsame.mono (by decide) (by decide)⟩
            · show Steps p.tables e below (T77.setTop (mkF m 75 #[.val (.ref a1), .val (.int p2), .val (.int (c_w_de (p2).toNatClampNeg)), .val (.int (c_w_si ((c_w_de (p2).toNatClampNeg)).toNatClampNeg)), .val (.ref (c_w_ro ((c_w_de (p2).toNatClampNeg)).toNatClampNeg)), .val (.int i5)] [(.int (f8 ((y0 ((c_w_de (p2).toNatClampNeg)).toNatClampNeg) ((i5 - (1 : Int32))).toNatClampNeg) p2 z_w_ar c_w_ar))])) _
              refine XS.ifYes X77.here hx rfl (pc0 := 75) (pc' := 96) rfl (hb hby d4_75) rfl ((if0 _ _).trans (teq hc75).1) (by decide) (by decide) ?_
              show Steps p.tables e below (T77.setTop (mkF m 96 #[.val (.ref a1), .val (.int p2), .val (.int (c_w_de (p2).toNatClampNeg)), .val (.int (c_w_si ((c_w_de (p2).toNatClampNeg)).toNatClampNeg)), .val (.ref (c_w_ro ((c_w_de (p2).toNatClampNeg)).toNatClampNeg)), .val (.int i5)] [])) _
              refine XS.aload X77.here hx rfl (hb hby d4_96) rfl rfl ?_
              show Steps p.tables e below (T77.setTop (mkF m 98 #[.val (.ref a1), .val (.int p2), .val (.int (c_w_de (p2).toNatClampNeg)), .val (.int (c_w_si ((c_w_de (p2).toNatClampNeg)).toNatClampNeg)), .val (.ref (c_w_ro ((c_w_de (p2).toNatClampNeg)).toNatClampNeg)), .val (.int i5)] [(.ref (c_w_ro ((c_w_de (p2).toNatClampNeg)).toNatClampNeg))])) _
              refine XS.iload X77.here hx rfl (hb hby d4_98) rfl ?_
              show Steps p.tables e below (T77.setTop (mkF m 100 #[.val (.ref a1), .val (.int p2), .val (.int (c_w_de (p2).toNatClampNeg)), .val (.int (c_w_si ((c_w_de (p2).toNatClampNeg)).toNatClampNeg)), .val (.ref (c_w_ro ((c_w_de (p2).toNatClampNeg)).toNatClampNeg)), .val (.int i5)] [(.int i5), (.ref (c_w_ro ((c_w_de (p2).toNatClampNeg)).toNatClampNeg))])) _
              refine XS.iloadN X77.here hx rfl (hb hby d4_100) rfl ?_
              show Steps p.tables e below (T77.setTop (mkF m 101 #[.val (.ref a1), .val (.int p2), .val (.int (c_w_de (p2).toNatClampNeg)), .val (.int (c_w_si ((c_w_de (p2).toNatClampNeg)).toNatClampNeg)), .val (.ref (c_w_ro ((c_w_de (p2).toNatClampNeg)).toNatClampNeg)), .val (.int i5)] [(.int p2), (.int i5), (.ref (c_w_ro ((c_w_de (p2).toNatClampNeg)).toNatClampNeg))])) _
              refine st78 _ ?_
              show Steps p.tables e below (T78.setTop (mkF m 102 #[.val (.ref a1), .val (.int p2), .val (.int (c_w_de (p2).toNatClampNeg)), .val (.int (c_w_si ((c_w_de (p2).toNatClampNeg)).toNatClampNeg)), .val (.ref (c_w_ro ((c_w_de (p2).toNatClampNeg)).toNatClampNeg)), .val (.int i5)] [])) _
              refine XS.aloadN X78.here hx rfl (hb hby d4_102) rfl rfl ?_
              show Steps p.tables e below (T78.setTop (mkF m 103 #[.val (.ref a1), .val (.int p2), .val (.int (c_w_de (p2).toNatClampNeg)), .val (.int (c_w_si ((c_w_de (p2).toNatClampNeg)).toNatClampNeg)), .val (.ref (c_w_ro ((c_w_de (p2).toNatClampNeg)).toNatClampNeg)), .val (.int i5)] [(.ref a1)])) _
              refine st90 _ ?_
              show Steps p.tables e below (T90.setTop (mkF m 106 #[.val (.ref a1), .val (.int p2), .val (.int (c_w_de (p2).toNatClampNeg)), .val (.int (c_w_si ((c_w_de (p2).toNatClampNeg)).toNatClampNeg)), .val (.ref (c_w_ro ((c_w_de (p2).toNatClampNeg)).toNatClampNeg)), .val (.int i5)] [(.ref w_si)])) _
              refine XS.iloadN X90.here hx rfl (hb hby d4_106) rfl ?_
              show Steps p.tables e below (T90.setTop (mkF m 107 #[.val (.ref a1), .val (.int p2), .val (.int (c_w_de (p2).toNatClampNeg)), .val (.int (c_w_si ((c_w_de (p2).toNatClampNeg)).toNatClampNeg)), .val (.ref (c_w_ro ((c_w_de (p2).toNatClampNeg)).toNatClampNeg)), .val (.int i5)] [(.int (c_w_de (p2).toNatClampNeg)), (.ref w_si)])) _
              refine XS.iloadN X90.here hx rfl (hb hby d4_107) rfl ?_
              show Steps p.tables e below (T90.setTop (mkF m 108 #[.val (.ref a1), .val (.int p2), .val (.int (c_w_de (p2).toNatClampNeg)), .val (.int (c_w_si ((c_w_de (p2).toNatClampNeg)).toNatClampNeg)), .val (.ref (c_w_ro ((c_w_de (p2).toNatClampNeg)).toNatClampNeg)), .val (.int i5)] [(.int (c_w_si ((c_w_de (p2).toNatClampNeg)).toNatClampNeg)), (.int (c_w_de (p2).toNatClampNeg)), (.ref w_si)])) _
              refine XS.iconst X90.here hx rfl (hb hby d4_108) ?_
              show Steps p.tables e below (T90.setTop (mkF m 109 #[.val (.ref a1), .val (.int p2), .val (.int (c_w_de (p2).toNatClampNeg)), .val (.int (c_w_si ((c_w_de (p2).toNatClampNeg)).toNatClampNeg)), .val (.ref (c_w_ro ((c_w_de (p2).toNatClampNeg)).toNatClampNeg)), .val (.int i5)] [(.int (1 : Int32)), (.int (c_w_si ((c_w_de (p2).toNatClampNeg)).toNatClampNeg)), (.int (c_w_de (p2).toNatClampNeg)), (.ref w_si)])) _
              refine XS.iadd X90.here hx rfl (hb hby d4_109) rfl ?_
              show Steps p.tables e below (T90.setTop (mkF m 110 #[.val (.ref a1), .val (.int p2), .val (.int (c_w_de (p2).toNatClampNeg)), .val (.int (c_w_si ((c_w_de (p2).toNatClampNeg)).toNatClampNeg)), .val (.ref (c_w_ro ((c_w_de (p2).toNatClampNeg)).toNatClampNeg)), .val (.int i5)] [(.int ((c_w_si ((c_w_de (p2).toNatClampNeg)).toNatClampNeg) + (1 : Int32))), (.int (c_w_de (p2).toNatClampNeg)), (.ref w_si)])) _
              refine st91 _ ?_
              show Steps p.tables e below (T91.setTop (mkF m 111 #[.val (.ref a1), .val (.int p2), .val (.int (c_w_de (p2).toNatClampNeg)), .val (.int (c_w_si ((c_w_de (p2).toNatClampNeg)).toNatClampNeg)), .val (.ref (c_w_ro ((c_w_de (p2).toNatClampNeg)).toNatClampNeg)), .val (.int i5)] [])) _
              exact X91.returnOut hx Bd.returns (hb hby d4_111) hr
            · show Q4 Z a1 p2 w_de w_ar w_ro w_si z_w_de c_w_de z_w_ar c_w_ar z_w_si c_w_si c_w_ro n_w_ro f_w_ro m_w_ro h0 n0 _ T91.heap _
              rw [e91]
              exact ⟨c_w_ro, rfl, N91, c102, (by rw [eq8]; exact c100), (by rw [eq9, eq10]; exact c101)⟩
          · obtain ⟨T103, h103, X103, e103, W103, V103, st103⟩ := sI X77 hx hZ e77 (c75.2.2.2.1 ((c_w_de (p2).toNatClampNeg)).toNatClampNeg (own_d4 (hd _))).1 (j := i5) (own_a2 hI hJ (hd _) hi hc22) (g := (mkF m 89 #[.val (.ref a1), .val (.int p2), .val (.int (c_w_de (p2).toNatClampNeg)), .val (.int (c_w_si ((c_w_de (p2).toNatClampNeg)).toNatClampNeg)), .val (.ref (c_w_ro ((c_w_de (p2).toNatClampNeg)).toNatClampNeg)), .val (.int i5)] [(.int ((y0 ((c_w_de (p2).toNatClampNeg)).toNatClampNeg) ((i5 - (1 : Int32))).toNatClampNeg)), (.int i5), (.ref (c_w_ro ((c_w_de (p2).toNatClampNeg)).toNatClampNeg))])) rfl rfl (hb hby d4_89)
            have N103 := Fr.snoc X103 N77 (Nat.le_trans hm_w_ro (c75.2.2.2.1 ((c_w_de (p2).toNatClampNeg)).toNatClampNeg (own_d4 (hd _))).2.1)
            have c104 : n0 ≤ h103.size := Nat.le_trans c66 (Keep.of_wr W103).1
            have c105 : Exa Z h103 a1 "com/example/podflow/podflow/simulation/Arrivals" := c67.wr W103
            have c106 : Fld Z h103 a1 "com/example/podflow/podflow/simulation/Arrivals" "destination" "[I" (.ref w_de) := c68.other W103 (Or.inl (Ne.symm ((c75.2.2.2.2.2 _ (List.mem_of_getElem? (i := 1) rfl)).2 _ (own_d4 (hd _)))))
            have c107 : Fld Z h103 a1 "com/example/podflow/podflow/simulation/Arrivals" "arrival" "[J" (.ref w_ar) := c69.other W103 (Or.inl (Ne.symm ((c75.2.2.2.2.2 _ (List.mem_of_getElem? (i := 1) rfl)).2 _ (own_d4 (hd _)))))
            have c108 : Fld Z h103 a1 "com/example/podflow/podflow/simulation/Arrivals" "rows" "[[I" (.ref w_ro) := c70.other W103 (Or.inl (Ne.symm ((c75.2.2.2.2.2 _ (List.mem_of_getElem? (i := 1) rfl)).2 _ (own_d4 (hd _)))))
            have c109 : Fld Z h103 a1 "com/example/podflow/podflow/simulation/Arrivals" "sizes" "[I" (.ref w_si) := c71.other W103 (Or.inl (Ne.symm ((c75.2.2.2.2.2 _ (List.mem_of_getElem? (i := 1) rfl)).2 _ (own_d4 (hd _)))))
            have c110 : IAr Z h103 w_de .int z_w_de c_w_de := c72.other W103 (Ne.symm ((c75.2.2.2.2.2 _ (List.mem_of_getElem? (i := 2) rfl)).2 _ (own_d4 (hd _))))
            have c111 : LAr Z h103 w_ar  z_w_ar c_w_ar := c73.other W103 (Ne.symm ((c75.2.2.2.2.2 _ (List.mem_of_getElem? (i := 3) rfl)).2 _ (own_d4 (hd _))))
            have c112 : IAr Z h103 w_si .int z_w_si c_w_si := c74.other W103 (Ne.symm ((c75.2.2.2.2.2 _ (List.mem_of_getElem? (i := 0) rfl)).2 _ (own_d4 (hd _))))
            have c113 : OwnR Z h103 w_ro c_w_ro n_w_ro (ownUF y0 ((c_w_de (p2).toNatClampNeg)).toNatClampNeg (ownU (y0 ((c_w_de (p2).toNatClampNeg)).toNatClampNeg) (i5).toNatClampNeg ((y0 ((c_w_de (p2).toNatClampNeg)).toNatClampNeg) ((i5 - (1 : Int32))).toNatClampNeg))) [w_si, a1, w_de, w_ar] m_w_ro := c75.set (own_d4 (hd _)) W103
            have c114 : Keep h0 h103 [w_ro, w_si, (c_w_ro ((c_w_de (p2).toNatClampNeg)).toNatClampNeg)] := c76.wr W103 (Or.inl (List.mem_of_getElem? (i := 2) rfl))
            have eq11 : (f4_o0 p2 z_w_de c_w_de z_w_ar c_w_ar z_w_si c_w_si n_w_ro f_w_ro) = (g4_58 p2 z_w_de c_w_de z_w_ar c_w_ar z_w_si c_w_si n_w_ro f_w_ro k (i5 + (-1 : Int32)) (ownUF y0 ((c_w_de (p2).toNatClampNeg)).toNatClampNeg (ownU (y0 ((c_w_de (p2).toNatClampNeg)).toNatClampNeg) (i5).toNatClampNeg ((y0 ((c_w_de (p2).toNatClampNeg)).toNatClampNeg) ((i5 - (1 : Int32))).toNatClampNeg)))) := by rw [← hg0]; simp only [g4_58, if_pos hc60, if_neg hc75]
            have eq12 : (f4_rn p2 z_w_de c_w_de z_w_ar c_w_ar z_w_si c_w_si n_w_ro f_w_ro) = (g4_58_1 p2 z_w_de c_w_de z_w_ar c_w_ar z_w_si c_w_si n_w_ro f_w_ro k (i5 + (-1 : Int32)) (ownUF y0 ((c_w_de (p2).toNatClampNeg)).toNatClampNeg (ownU (y0 ((c_w_de (p2).toNatClampNeg)).toNatClampNeg) (i5).toNatClampNeg ((y0 ((c_w_de (p2).toNatClampNeg)).toNatClampNeg) ((i5 - (1 : Int32))).toNatClampNeg)))) := by rw [← hg1]; simp only [g4_58_1, if_pos hc60, if_neg hc75]
            have eq13 : (f4_rf p2 z_w_de c_w_de z_w_ar c_w_ar z_w_si c_w_si n_w_ro f_w_ro) = (g4_58_2 p2 z_w_de c_w_de z_w_ar c_w_ar z_w_si c_w_si n_w_ro f_w_ro k (i5 + (-1 : Int32)) (ownUF y0 ((c_w_de (p2).toNatClampNeg)).toNatClampNeg (ownU (y0 ((c_w_de (p2).toNatClampNeg)).toNatClampNeg) (i5).toNatClampNeg ((y0 ((c_w_de (p2).toNatClampNeg)).toNatClampNeg) ((i5 - (1 : Int32))).toNatClampNeg)))) := by rw [← hg2]; simp only [g4_58_2, if_pos hc60, if_neg hc75]
            have pre14 : ∀ t, Steps p.tables e below (T103.setTop (mkF m 58 #[.val (.ref a1), .val (.int p2), .val (.int (c_w_de (p2).toNatClampNeg)), .val (.int (c_w_si ((c_w_de (p2).toNatClampNeg)).toNatClampNeg)), .val (.ref (c_w_ro ((c_w_de (p2).toNatClampNeg)).toNatClampNeg)), .val (.int (i5 + (-1 : Int32)))] [])) t → Steps p.tables e below (s₁.setTop (entryFrame m #[(.ref a1), (.int p2)] 6)) t := by
              intro t k
              refine pre7 t ?_
              show Steps p.tables e below (T77.setTop (mkF m 75 #[.val (.ref a1), .val (.int p2), .val (.int (c_w_de (p2).toNatClampNeg)), .val (.int (c_w_si ((c_w_de (p2).toNatClampNeg)).toNatClampNeg)), .val (.ref (c_w_ro ((c_w_de (p2).toNatClampNeg)).toNatClampNeg)), .val (.int i5)] [(.int (f8 ((y0 ((c_w_de (p2).toNatClampNeg)).toNatClampNeg) ((i5 - (1 : Int32))).toNatClampNeg) p2 z_w_ar c_w_ar))])) _
              refine XS.ifNo X77.here hx rfl (hb hby d4_75) rfl ((if0 _ _).trans (feq hc75).1) ?_
              show Steps p.tables e below (T77.setTop (mkF m 78 #[.val (.ref a1), .val (.int p2), .val (.int (c_w_de (p2).toNatClampNeg)), .val (.int (c_w_si ((c_w_de (p2).toNatClampNeg)).toNatClampNeg)), .val (.ref (c_w_ro ((c_w_de (p2).toNatClampNeg)).toNatClampNeg)), .val (.int i5)] [])) _
              refine XS.aload X77.here hx rfl (hb hby d4_78) rfl rfl ?_
              show Steps p.tables e below (T77.setTop (mkF m 80 #[.val (.ref a1), .val (.int p2), .val (.int (c_w_de (p2).toNatClampNeg)), .val (.int (c_w_si ((c_w_de (p2).toNatClampNeg)).toNatClampNeg)), .val (.ref (c_w_ro ((c_w_de (p2).toNatClampNeg)).toNatClampNeg)), .val (.int i5)] [(.ref (c_w_ro ((c_w_de (p2).toNatClampNeg)).toNatClampNeg))])) _
              refine XS.iload X77.here hx rfl (hb hby d4_80) rfl ?_
              show Steps p.tables e below (T77.setTop (mkF m 82 #[.val (.ref a1), .val (.int p2), .val (.int (c_w_de (p2).toNatClampNeg)), .val (.int (c_w_si ((c_w_de (p2).toNatClampNeg)).toNatClampNeg)), .val (.ref (c_w_ro ((c_w_de (p2).toNatClampNeg)).toNatClampNeg)), .val (.int i5)] [(.int i5), (.ref (c_w_ro ((c_w_de (p2).toNatClampNeg)).toNatClampNeg))])) _
              refine XS.aload X77.here hx rfl (hb hby d4_82) rfl rfl ?_
              show Steps p.tables e below (T77.setTop (mkF m 84 #[.val (.ref a1), .val (.int p2), .val (.int (c_w_de (p2).toNatClampNeg)), .val (.int (c_w_si ((c_w_de (p2).toNatClampNeg)).toNatClampNeg)), .val (.ref (c_w_ro ((c_w_de (p2).toNatClampNeg)).toNatClampNeg)), .val (.int i5)] [(.ref (c_w_ro ((c_w_de (p2).toNatClampNeg)).toNatClampNeg)), (.int i5), (.ref (c_w_ro ((c_w_de (p2).toNatClampNeg)).toNatClampNeg))])) _
              refine XS.iload X77.here hx rfl (hb hby d4_84) rfl ?_
              show Steps p.tables e below (T77.setTop (mkF m 86 #[.val (.ref a1), .val (.int p2), .val (.int (c_w_de (p2).toNatClampNeg)), .val (.int (c_w_si ((c_w_de (p2).toNatClampNeg)).toNatClampNeg)), .val (.ref (c_w_ro ((c_w_de (p2).toNatClampNeg)).toNatClampNeg)), .val (.int i5)] [(.int i5), (.ref (c_w_ro ((c_w_de (p2).toNatClampNeg)).toNatClampNeg)), (.int i5), (.ref (c_w_ro ((c_w_de (p2).toNatClampNeg)).toNatClampNeg))])) _
              refine XS.iconst X77.here hx rfl (hb hby d4_86) ?_
              show Steps p.tables e below (T77.setTop (mkF m 87 #[.val (.ref a1), .val (.int p2), .val (.int (c_w_de (p2).toNatClampNeg)), .val (.int (c_w_si ((c_w_de (p2).toNatClampNeg)).toNatClampNeg)), .val (.ref (c_w_ro ((c_w_de (p2).toNatClampNeg)).toNatClampNeg)), .val (.int i5)] [(.int (1 : Int32)), (.int i5), (.ref (c_w_ro ((c_w_de (p2).toNatClampNeg)).toNatClampNeg)), (.int i5), (.ref (c_w_ro ((c_w_de (p2).toNatClampNeg)).toNatClampNeg))])) _
              refine XS.isub X77.here hx rfl (hb hby d4_87) rfl ?_
              show Steps p.tables e below (T77.setTop (mkF m 88 #[.val (.ref a1), .val (.int p2), .val (.int (c_w_de (p2).toNatClampNeg)), .val (.int (c_w_si ((c_w_de (p2).toNatClampNeg)).toNatClampNeg)), .val (.ref (c_w_ro ((c_w_de (p2).toNatClampNeg)).toNatClampNeg)), .val (.int i5)] [(.int (i5 - (1 : Int32))), (.ref (c_w_ro ((c_w_de (p2).toNatClampNeg)).toNatClampNeg)), (.int i5), (.ref (c_w_ro ((c_w_de (p2).toNatClampNeg)).toNatClampNeg))])) _
              refine ldI X77 hx hZ e77 (c75.2.2.2.1 ((c_w_de (p2).toNatClampNeg)).toNatClampNeg (own_d4 (hd _))).1 (j := (i5 - (1 : Int32))) (own_a1 hI hJ (hd _) hi hc22 hc60) (g := (mkF m 88 #[.val (.ref a1), .val (.int p2), .val (.int (c_w_de (p2).toNatClampNeg)), .val (.int (c_w_si ((c_w_de (p2).toNatClampNeg)).toNatClampNeg)), .val (.ref (c_w_ro ((c_w_de (p2).toNatClampNeg)).toNatClampNeg)), .val (.int i5)] [(.int (i5 - (1 : Int32))), (.ref (c_w_ro ((c_w_de (p2).toNatClampNeg)).toNatClampNeg)), (.int i5), (.ref (c_w_ro ((c_w_de (p2).toNatClampNeg)).toNatClampNeg))])) rfl rfl (hb hby d4_88) ?_
              show Steps p.tables e below (T77.setTop (mkF m 89 #[.val (.ref a1), .val (.int p2), .val (.int (c_w_de (p2).toNatClampNeg)), .val (.int (c_w_si ((c_w_de (p2).toNatClampNeg)).toNatClampNeg)), .val (.ref (c_w_ro ((c_w_de (p2).toNatClampNeg)).toNatClampNeg)), .val (.int i5)] [(.int ((y0 ((c_w_de (p2).toNatClampNeg)).toNatClampNeg) ((i5 - (1 : Int32))).toNatClampNeg)), (.int i5), (.ref (c_w_ro ((c_w_de (p2).toNatClampNeg)).toNatClampNeg))])) _
              refine st103 _ ?_
              show Steps p.tables e below (T103.setTop (mkF m 90 #[.val (.ref a1), .val (.int p2), .val (.int (c_w_de (p2).toNatClampNeg)), .val (.int (c_w_si ((c_w_de (p2).toNatClampNeg)).toNatClampNeg)), .val (.ref (c_w_ro ((c_w_de (p2).toNatClampNeg)).toNatClampNeg)), .val (.int i5)] [])) _
              refine XS.iinc X103.here hx rfl (hb hby d4_90) rfl (l' := #[.val (.ref a1), .val (.int p2), .val (.int (c_w_de (p2).toNatClampNeg)), .val (.int (c_w_si ((c_w_de (p2).toNatClampNeg)).toNatClampNeg)), .val (.ref (c_w_ro ((c_w_de (p2).toNatClampNeg)).toNatClampNeg)), .val (.int (i5 + (-1 : Int32)))]) rfl ?_
              show Steps p.tables e below (T103.setTop (mkF m 93 #[.val (.ref a1), .val (.int p2), .val (.int (c_w_de (p2).toNatClampNeg)), .val (.int (c_w_si ((c_w_de (p2).toNatClampNeg)).toNatClampNeg)), .val (.ref (c_w_ro ((c_w_de (p2).toNatClampNeg)).toNatClampNeg)), .val (.int (i5 + (-1 : Int32)))] [])) _
              refine XS.goto X103.here hx rfl (pc0 := 93) (pc' := 58) rfl (hb hby d4_93) (by decide) (by decide) ?_
              exact k
            exact ih (i5 + (-1 : Int32)) (ownUF y0 ((c_w_de (p2).toNatClampNeg)).toNatClampNeg (ownU (y0 ((c_w_de (p2).toNatClampNeg)).toNatClampNeg) (i5).toNatClampNeg ((y0 ((c_w_de (p2).toNatClampNeg)).toNatClampNeg) ((i5 - (1 : Int32))).toNatClampNeg))) T103 _ h103 (own_st hI hc60) X103 e103 N103 c104 c105 c106 c107 c108 c109 c110 c111 c112 c113 c114  (eq11).symm (eq12).symm (eq13).symm pre14
        · obtain ⟨T115, h115, X115, e115, W115, V115, st115⟩ := sI X65 hx hZ e65 (c75.2.2.2.1 ((c_w_de (p2).toNatClampNeg)).toNatClampNeg (own_d4 (hd _))).1 (j := i5) (own_a2 hI hJ (hd _) hi hc22) (g := (mkF m 101 #[.val (.ref a1), .val (.int p2), .val (.int (c_w_de (p2).toNatClampNeg)), .val (.int (c_w_si ((c_w_de (p2).toNatClampNeg)).toNatClampNeg)), .val (.ref (c_w_ro ((c_w_de (p2).toNatClampNeg)).toNatClampNeg)), .val (.int i5)] [(.int p2), (.int i5), (.ref (c_w_ro ((c_w_de (p2).toNatClampNeg)).toNatClampNeg))])) rfl rfl (hb hby d4_101)
          have N115 := Fr.snoc X115 N65 (Nat.le_trans hm_w_ro (c75.2.2.2.1 ((c_w_de (p2).toNatClampNeg)).toNatClampNeg (own_d4 (hd _))).2.1)
          have c116 : n0 ≤ h115.size := Nat.le_trans c66 (Keep.of_wr W115).1
          have c117 : Exa Z h115 a1 "com/example/podflow/podflow/simulation/Arrivals" := c67.wr W115
          have c118 : Fld Z h115 a1 "com/example/podflow/podflow/simulation/Arrivals" "destination" "[I" (.ref w_de) := c68.other W115 (Or.inl (Ne.symm ((c75.2.2.2.2.2 _ (List.mem_of_getElem? (i := 1) rfl)).2 _ (own_d4 (hd _)))))
          have c119 : Fld Z h115 a1 "com/example/podflow/podflow/simulation/Arrivals" "arrival" "[J" (.ref w_ar) := c69.other W115 (Or.inl (Ne.symm ((c75.2.2.2.2.2 _ (List.mem_of_getElem? (i := 1) rfl)).2 _ (own_d4 (hd _)))))
          have c120 : Fld Z h115 a1 "com/example/podflow/podflow/simulation/Arrivals" "rows" "[[I" (.ref w_ro) := c70.other W115 (Or.inl (Ne.symm ((c75.2.2.2.2.2 _ (List.mem_of_getElem? (i := 1) rfl)).2 _ (own_d4 (hd _)))))
          have c121 : Fld Z h115 a1 "com/example/podflow/podflow/simulation/Arrivals" "sizes" "[I" (.ref w_si) := c71.other W115 (Or.inl (Ne.symm ((c75.2.2.2.2.2 _ (List.mem_of_getElem? (i := 1) rfl)).2 _ (own_d4 (hd _)))))
          have c122 : IAr Z h115 w_de .int z_w_de c_w_de := c72.other W115 (Ne.symm ((c75.2.2.2.2.2 _ (List.mem_of_getElem? (i := 2) rfl)).2 _ (own_d4 (hd _))))
          have c123 : LAr Z h115 w_ar  z_w_ar c_w_ar := c73.other W115 (Ne.symm ((c75.2.2.2.2.2 _ (List.mem_of_getElem? (i := 3) rfl)).2 _ (own_d4 (hd _))))
          have c124 : IAr Z h115 w_si .int z_w_si c_w_si := c74.other W115 (Ne.symm ((c75.2.2.2.2.2 _ (List.mem_of_getElem? (i := 0) rfl)).2 _ (own_d4 (hd _))))
          have c125 : OwnR Z h115 w_ro c_w_ro n_w_ro (ownUF y0 ((c_w_de (p2).toNatClampNeg)).toNatClampNeg (ownU (y0 ((c_w_de (p2).toNatClampNeg)).toNatClampNeg) (i5).toNatClampNeg p2)) [w_si, a1, w_de, w_ar] m_w_ro := c75.set (own_d4 (hd _)) W115
          have c126 : Keep h0 h115 [w_ro, w_si, (c_w_ro ((c_w_de (p2).toNatClampNeg)).toNatClampNeg)] := c76.wr W115 (Or.inl (List.mem_of_getElem? (i := 2) rfl))
          obtain ⟨T127, X127, e127, st127⟩ := getF X115 hx hZ hown (host := "") (Or.inl (hw _ (List.mem_of_getElem? (i := 22) rfl))) Via.refl e115 c121 (g := (mkF m 103 #[.val (.ref a1), .val (.int p2), .val (.int (c_w_de (p2).toNatClampNeg)), .val (.int (c_w_si ((c_w_de (p2).toNatClampNeg)).toNatClampNeg)), .val (.ref (c_w_ro ((c_w_de (p2).toNatClampNeg)).toNatClampNeg)), .val (.int i5)] [(.ref a1)])) rfl rfl (hb hby d4_103)
          obtain ⟨T128, h128, X128, e128, W128, V128, st128⟩ := sI X127 hx hZ e127 c124 (j := (c_w_de (p2).toNatClampNeg)) (own_i4 (hd _) hl.2.2) (g := (mkF m 110 #[.val (.ref a1), .val (.int p2), .val (.int (c_w_de (p2).toNatClampNeg)), .val (.int (c_w_si ((c_w_de (p2).toNatClampNeg)).toNatClampNeg)), .val (.ref (c_w_ro ((c_w_de (p2).toNatClampNeg)).toNatClampNeg)), .val (.int i5)] [(.int ((c_w_si ((c_w_de (p2).toNatClampNeg)).toNatClampNeg) + (1 : Int32))), (.int (c_w_de (p2).toNatClampNeg)), (.ref w_si)])) rfl rfl (hb hby d4_110)
          have N128 := Fr.snoc X128 N115 g_w_si
          have c129 : n0 ≤ h128.size := Nat.le_trans c116 (Keep.of_wr W128).1
          have c130 : Exa Z h128 a1 "com/example/podflow/podflow/simulation/Arrivals" := c117.wr W128
          have c131 : Fld Z h128 a1 "com/example/podflow/podflow/simulation/Arrivals" "destination" "[I" (.ref w_de) := c118.other W128 (Or.inl (Ne.symm ne_w_si_a1))
          have c132 : Fld Z h128 a1 "com/example/podflow/podflow/simulation/Arrivals" "arrival" "[J" (.ref w_ar) := c119.other W128 (Or.inl (Ne.symm ne_w_si_a1))
          have c133 : Fld Z h128 a1 "com/example/podflow/podflow/simulation/Arrivals" "rows" "[[I" (.ref w_ro) := c120.other W128 (Or.inl (Ne.symm ne_w_si_a1))
          have c134 : Fld Z h128 a1 "com/example/podflow/podflow/simulation/Arrivals" "sizes" "[I" (.ref w_si) := c121.other W128 (Or.inl (Ne.symm ne_w_si_a1))
          have c135 : IAr Z h128 w_de .int z_w_de c_w_de := c122.other W128 (Ne.symm ne_w_si_w_de)
          have c136 : LAr Z h128 w_ar  z_w_ar c_w_ar := c123.other W128 (Ne.symm ne_w_si_w_ar)
          have c137 : IAr Z h128 w_si .int z_w_si (ownU c_w_si ((c_w_de (p2).toNatClampNeg)).toNatClampNeg ((c_w_si ((c_w_de (p2).toNatClampNeg)).toNatClampNeg) + (1 : Int32))) := V128
          have c138 : OwnR Z h128 w_ro c_w_ro n_w_ro (ownUF y0 ((c_w_de (p2).toNatClampNeg)).toNatClampNeg (ownU (y0 ((c_w_de (p2).toNatClampNeg)).toNatClampNeg) (i5).toNatClampNeg p2)) [w_si, a1, w_de, w_ar] m_w_ro := c125.other W128 (List.mem_of_getElem? (i := 0) rfl)
          have c139 : Keep h0 h128 [w_ro, w_si, (c_w_ro ((c_w_de (p2).toNatClampNeg)).toNatClampNeg)] := c126.wr W128 (Or.inl (List.mem_of_getElem? (i := 1) rfl))
          have eq15 : (f4_o0 p2 z_w_de c_w_de z_w_ar c_w_ar z_w_si c_w_si n_w_ro f_w_ro) = (ownU c_w_si ((c_w_de (p2).toNatClampNeg)).toNatClampNeg ((c_w_si ((c_w_de (p2).toNatClampNeg)).toNatClampNeg) + (1 : Int32))) := by rw [← hg0]; simp only [g4_58, if_neg hc60]
          have eq16 : (f4_rn p2 z_w_de c_w_de z_w_ar c_w_ar z_w_si c_w_si n_w_ro f_w_ro) = n_w_ro := by rw [← hg1]; simp only [g4_58_1, if_neg hc60]
          have eq17 : (f4_rf p2 z_w_de c_w_de z_w_ar c_w_ar z_w_si c_w_si n_w_ro f_w_ro) = (ownUF y0 ((c_w_de (p2).toNatClampNeg)).toNatClampNeg (ownU (y0 ((c_w_de (p2).toNatClampNeg)).toNatClampNeg) (i5).toNatClampNeg p2)) := by rw [← hg2]; simp only [g4_58_2, if_neg hc60]
          obtain ⟨fs, hr, hrun, hended, hW, hsame⟩ := X128.leave (v := none) (fun _ => rfl)
          refine ⟨_, _, pre6 _ ?_, hrun, hended, _, _, rfl, ?_, ⟨_, rfl⟩, hW, hsame.mono (by decide) (by decide)⟩
          · show Steps p.tables e below (T65.setTop (mkF m 60 #[.val (.ref a1), .val (.int p2), .val (.int (c_w_de (p2).toNatClampNeg)), .val (.int (c_w_si ((c_w_de (p2).toNatClampNeg)).toNatClampNeg)), .val (.ref (c_w_ro ((c_w_de (p2).toNatClampNeg)).toNatClampNeg)), .val (.int i5)] [(.int i5)])) _
            refine XS.ifYes X65.here hx rfl (pc0 := 60) (pc' := 96) rfl (hb hby d4_60) rfl ((if0 _ _).trans (flt hc60).2.2.2) (by decide) (by decide) ?_
            show Steps p.tables e below (T65.setTop (mkF m 96 #[.val (.ref a1), .val (.int p2), .val (.int (c_w_de (p2).toNatClampNeg)), .val (.int (c_w_si ((c_w_de (p2).toNatClampNeg)).toNatClampNeg)), .val (.ref (c_w_ro ((c_w_de (p2).toNatClampNeg)).toNatClampNeg)), .val (.int i5)] [])) _
            refine XS.aload X65.here hx rfl (hb hby d4_96) rfl rfl ?_
            show Steps p.tables e below (T65.setTop (mkF m 98 #[.val (.ref a1), .val (.int p2), .val (.int (c_w_de (p2).toNatClampNeg)), .val (.int (c_w_si ((c_w_de (p2).toNatClampNeg)).toNatClampNeg)), .val (.ref (c_w_ro ((c_w_de (p2).toNatClampNeg)).toNatClampNeg)), .val (.int i5)] [(.ref (c_w_ro ((c_w_de (p2).toNatClampNeg)).toNatClampNeg))])) _
            refine XS.iload X65.here hx rfl (hb hby d4_98) rfl ?_
            show Steps p.tables e below (T65.setTop (mkF m 100 #[.val (.ref a1), .val (.int p2), .val (.int (c_w_de (p2).toNatClampNeg)), .val (.int (c_w_si ((c_w_de (p2).toNatClampNeg)).toNatClampNeg)), .val (.ref (c_w_ro ((c_w_de (p2).toNatClampNeg)).toNatClampNeg)), .val (.int i5)] [(.int i5), (.ref (c_w_ro ((c_w_de (p2).toNatClampNeg)).toNatClampNeg))])) _
            refine XS.iloadN X65.here hx rfl (hb hby d4_100) rfl ?_
            show Steps p.tables e below (T65.setTop (mkF m 101 #[.val (.ref a1), .val (.int p2), .val (.int (c_w_de (p2).toNatClampNeg)), .val (.int (c_w_si ((c_w_de (p2).toNatClampNeg)).toNatClampNeg)), .val (.ref (c_w_ro ((c_w_de (p2).toNatClampNeg)).toNatClampNeg)), .val (.int i5)] [(.int p2), (.int i5), (.ref (c_w_ro ((c_w_de (p2).toNatClampNeg)).toNatClampNeg))])) _
            refine st115 _ ?_
            show Steps p.tables e below (T115.setTop (mkF m 102 #[.val (.ref a1), .val (.int p2), .val (.int (c_w_de (p2).toNatClampNeg)), .val (.int (c_w_si ((c_w_de (p2).toNatClampNeg)).toNatClampNeg)), .val (.ref (c_w_ro ((c_w_de (p2).toNatClampNeg)).toNatClampNeg)), .val (.int i5)] [])) _
            refine XS.aloadN X115.here hx rfl (hb hby d4_102) rfl rfl ?_
            show Steps p.tables e below (T115.setTop (mkF m 103 #[.val (.ref a1), .val (.int p2), .val (.int (c_w_de (p2).toNatClampNeg)), .val (.int (c_w_si ((c_w_de (p2).toNatClampNeg)).toNatClampNeg)), .val (.ref (c_w_ro ((c_w_de (p2).toNatClampNeg)).toNatClampNeg)), .val (.int i5)] [(.ref a1)])) _
            refine st127 _ ?_
            show Steps p.tables e below (T127.setTop (mkF m 106 #[.val (.ref a1), .val (.int p2), .val (.int (c_w_de (p2).toNatClampNeg)), .val (.int (c_w_si ((c_w_de (p2).toNatClampNeg)).toNatClampNeg)), .val (.ref (c_w_ro ((c_w_de (p2).toNatClampNeg)).toNatClampNeg)), .val (.int i5)] [(.ref w_si)])) _
            refine XS.iloadN X127.here hx rfl (hb hby d4_106) rfl ?_
            show Steps p.tables e below (T127.setTop (mkF m 107 #[.val (.ref a1), .val (.int p2), .val (.int (c_w_de (p2).toNatClampNeg)), .val (.int (c_w_si ((c_w_de (p2).toNatClampNeg)).toNatClampNeg)), .val (.ref (c_w_ro ((c_w_de (p2).toNatClampNeg)).toNatClampNeg)), .val (.int i5)] [(.int (c_w_de (p2).toNatClampNeg)), (.ref w_si)])) _
            refine XS.iloadN X127.here hx rfl (hb hby d4_107) rfl ?_
            show Steps p.tables e below (T127.setTop (mkF m 108 #[.val (.ref a1), .val (.int p2), .val (.int (c_w_de (p2).toNatClampNeg)), .val (.int (c_w_si ((c_w_de (p2).toNatClampNeg)).toNatClampNeg)), .val (.ref (c_w_ro ((c_w_de (p2).toNatClampNeg)).toNatClampNeg)), .val (.int i5)] [(.int (c_w_si ((c_w_de (p2).toNatClampNeg)).toNatClampNeg)), (.int (c_w_de (p2).toNatClampNeg)), (.ref w_si)])) _
            refine XS.iconst X127.here hx rfl (hb hby d4_108) ?_
            show Steps p.tables e below (T127.setTop (mkF m 109 #[.val (.ref a1), .val (.int p2), .val (.int (c_w_de (p2).toNatClampNeg)), .val (.int (c_w_si ((c_w_de (p2).toNatClampNeg)).toNatClampNeg)), .val (.ref (c_w_ro ((c_w_de (p2).toNatClampNeg)).toNatClampNeg)), .val (.int i5)] [(.int (1 : Int32)), (.int (c_w_si ((c_w_de (p2).toNatClampNeg)).toNatClampNeg)), (.int (c_w_de (p2).toNatClampNeg)), (.ref w_si)])) _
            refine XS.iadd X127.here hx rfl (hb hby d4_109) rfl ?_
            show Steps p.tables e below (T127.setTop (mkF m 110 #[.val (.ref a1), .val (.int p2), .val (.int (c_w_de (p2).toNatClampNeg)), .val (.int (c_w_si ((c_w_de (p2).toNatClampNeg)).toNatClampNeg)), .val (.ref (c_w_ro ((c_w_de (p2).toNatClampNeg)).toNatClampNeg)), .val (.int i5)] [(.int ((c_w_si ((c_w_de (p2).toNatClampNeg)).toNatClampNeg) + (1 : Int32))), (.int (c_w_de (p2).toNatClampNeg)), (.ref w_si)])) _
            refine st128 _ ?_
            show Steps p.tables e below (T128.setTop (mkF m 111 #[.val (.ref a1), .val (.int p2), .val (.int (c_w_de (p2).toNatClampNeg)), .val (.int (c_w_si ((c_w_de (p2).toNatClampNeg)).toNatClampNeg)), .val (.ref (c_w_ro ((c_w_de (p2).toNatClampNeg)).toNatClampNeg)), .val (.int i5)] [])) _
            exact X128.returnOut hx Bd.returns (hb hby d4_111) hr
          · show Q4 Z a1 p2 w_de w_ar w_ro w_si z_w_de c_w_de z_w_ar c_w_ar z_w_si c_w_si c_w_ro n_w_ro f_w_ro m_w_ro h0 n0 _ T128.heap _
            rw [e128]
            exact ⟨c_w_ro, rfl, N128, c139, (by rw [eq15]; exact c137), (by rw [eq16, eq17]; exact c138)⟩
    exact loop58 3 (c_w_si ((c_w_de (p2).toNatClampNeg)).toNatClampNeg) f_w_ro T64 _ h0  (own_in hJ (hd _) hi hc22) X64 e64 N0 Z0 E_a1 F_destination_a1 F_arrival_a1 F_rows_a1 F_sizes_a1 V_w_de V_w_ar V_w_si O_w_ro (Keep.refl h0 [w_ro, w_si, (c_w_ro ((c_w_de (p2).toNatClampNeg)).toNatClampNeg)]) (by unfold f4_o0; simp only [if_neg hc22]) (by unfold f4_rn; simp only [if_neg hc22]) (by unfold f4_rf; simp only [if_neg hc22]) pre5
theorem own_g4 (p2 z1 z2 z3 : Int32) (c sz n : Nat → Int32) (ca : Nat → Int64) (f : Nat → Nat → Int32) (hp : 0 ≤ p2.toInt ∧ p2.toInt < 3) : ∀ (k : Nat) (i5 : Int32) (y0 : Nat → Nat → Int32), (0 ≤ i5.toInt ∧ i5.toInt ≤ 2 ∧ (∀ D j, 0 ≤ (y0 D j).toInt ∧ (y0 D j).toInt < 3) ∧ i5.toInt < (k : Int)) →
    g4_58 p2 z1 c z2 ca z3 sz n f k i5 y0 = ownU sz (c p2.toNatClampNeg).toNatClampNeg (sz (c p2.toNatClampNeg).toNatClampNeg + 1) ∧ g4_58_1 p2 z1 c z2 ca z3 sz n f k i5 y0 = n ∧ (∀ D j, 0 ≤ (g4_58_2 p2 z1 c z2 ca z3 sz n f k i5 y0 D j).toInt ∧ (g4_58_2 p2 z1 c z2 ca z3 sz n f k i5 y0 D j).toInt < 3) := by
  intro k
  induction k with
  | zero => intro i5 y0 h; have h1 := h.1; have h2 := h.2.2.2; omega
  | succ k ih =>
    intro i5 y0 h
    simp only [g4_58, g4_58_1, g4_58_2]
    by_cases h1 : (0 : Int32) < i5
    · simp only [if_pos h1]
      split
      · exact ⟨by first | trivial | rfl, by first | trivial | rfl, own_rg h.2.2.1 _ _ _ hp⟩
      · exact ih _ _ (own_st h h1)
    · simp only [if_neg h1]
      exact ⟨by first | trivial | rfl, by first | trivial | rfl, own_rg h.2.2.1 _ _ _ hp⟩
theorem own_Js (p2 z1 z2 z3 : Int32) (c sz n : Nat → Int32) (ca : Nat → Int64) (f : Nat → Nat → Int32) (hp : 0 ≤ p2.toInt ∧ p2.toInt < 3) (hd : ∀ i, 0 ≤ (c i).toInt ∧ (c i).toInt < 4) (hJ : own_J sz n f p2.toInt) : own_J (f4_o0 p2 z1 c z2 ca z3 sz n f) (f4_rn p2 z1 c z2 ca z3 sz n f) (f4_rf p2 z1 c z2 ca z3 sz n f) (p2.toInt + 1) := by
  have hone : (sz (c p2.toNatClampNeg).toNatClampNeg).toInt ≤ 2 → 0 ≤ (sz (c p2.toNatClampNeg).toNatClampNeg).toInt → (sz (c p2.toNatClampNeg).toNatClampNeg + 1).toInt = (sz (c p2.toNatClampNeg).toNatClampNeg).toInt + 1 := fun h1 h2 => by
    have b := c_iadd (sz (c p2.toNatClampNeg).toNatClampNeg) 1
    have r := rng32 (sz (c p2.toNatClampNeg).toNatClampNeg + 1)
    have e := own_e1
    omega
  unfold f4_o0 f4_rn f4_rf
  by_cases hc : sz (c p2.toNatClampNeg).toNatClampNeg = n (c p2.toNatClampNeg).toNatClampNeg
  · simp only [if_pos hc]
    have hz := own_gz hJ (hd _) hp hc
    refine ⟨fun D hD => ?_, ?_⟩
    · unfold f4_v110 f4_v46 ownU ownUN f6_x0n
      by_cases e : D = (c p2.toNatClampNeg).toNatClampNeg
      · simp only [if_pos e]
        refine Or.inr ⟨own_gm hz.1, ?_⟩
        rw [hz.1]
        have e1 : ((0 : Int32) + 1).toInt = 1 := rfl
        rw [e1]; omega
      · simp only [if_neg e]
        rcases hJ.1 D hD with q | ⟨q1, q2, q3⟩
        · exact Or.inl q
        · exact Or.inr ⟨q1, q2, by omega⟩
    · unfold f4_v101
      refine own_rg (fun D j => ?_) _ _ _ hp
      unfold f4_v46f ownUF f6_x0c
      split
      · show 0 ≤ (0 : Int32).toInt ∧ (0 : Int32).toInt < 3; decide
      · exact hJ.2 _ _
  · simp only [if_neg hc]
    obtain ⟨g1, g2, g3⟩ := own_g4 p2 z1 z2 z3 c sz n ca f hp 3 (sz (c p2.toNatClampNeg).toNatClampNeg) f (own_in hJ (hd _) hp hc)
    have h4 := own_n4 hJ (hd _) hc
    rw [g1, g2]
    refine ⟨fun D hD => ?_, g3⟩
    unfold ownU
    by_cases e : D = (c p2.toNatClampNeg).toNatClampNeg
    · rw [if_pos e, e, hone (by omega) (by omega)]
      exact Or.inr ⟨h4.1, by omega, by omega⟩
    · rw [if_neg e]
      rcases hJ.1 D hD with q | ⟨q1, q2, q3⟩
      · exact Or.inl q
      · exact Or.inr ⟨q1, q2, by omega⟩
theorem own_J0 {c : Nat → Int32} (hd : ∀ i, 0 ≤ (c i).toInt ∧ (c i).toInt < 4) : own_J (fun _ => 0) (fun _ => 0) (fun _ _ => 0) (0 : Int32).toInt := ⟨fun _ _ => Or.inl ⟨rfl, rfl⟩, fun _ _ => by show 0 ≤ (0 : Int32).toInt ∧ (0 : Int32).toInt < 3; decide⟩
theorem own_J1 {c : Nat → Int32} {ca : Nat → Int64} {z1 z2 z3 : Int32} (hd : ∀ i, 0 ≤ (c i).toInt ∧ (c i).toInt < 4) : own_J (f4_o0 0 z1 c z2 ca z3 (fun _ => 0) (fun _ => 0) (fun _ _ => 0)) (f4_rn 0 z1 c z2 ca z3 (fun _ => 0) (fun _ => 0) (fun _ _ => 0)) (f4_rf 0 z1 c z2 ca z3 (fun _ => 0) (fun _ => 0) (fun _ _ => 0)) (1 : Int32).toInt := own_Js 0 z1 z2 z3 c _ _ ca _ (by decide) hd (own_J0 hd)
theorem own_J2 {c : Nat → Int32} {ca : Nat → Int64} {z1 z2 z3 : Int32} (hd : ∀ i, 0 ≤ (c i).toInt ∧ (c i).toInt < 4) : own_J (f4_o0 1 z1 c z2 ca z3 (f4_o0 0 z1 c z2 ca z3 (fun _ => 0) (fun _ => 0) (fun _ _ => 0)) (f4_rn 0 z1 c z2 ca z3 (fun _ => 0) (fun _ => 0) (fun _ _ => 0)) (f4_rf 0 z1 c z2 ca z3 (fun _ => 0) (fun _ => 0) (fun _ _ => 0))) (f4_rn 1 z1 c z2 ca z3 (f4_o0 0 z1 c z2 ca z3 (fun _ => 0) (fun _ => 0) (fun _ _ => 0)) (f4_rn 0 z1 c z2 ca z3 (fun _ => 0) (fun _ => 0) (fun _ _ => 0)) (f4_rf 0 z1 c z2 ca z3 (fun _ => 0) (fun _ => 0) (fun _ _ => 0))) (f4_rf 1 z1 c z2 ca z3 (f4_o0 0 z1 c z2 ca z3 (fun _ => 0) (fun _ => 0) (fun _ _ => 0)) (f4_rn 0 z1 c z2 ca z3 (fun _ => 0) (fun _ => 0) (fun _ _ => 0)) (f4_rf 0 z1 c z2 ca z3 (fun _ => 0) (fun _ => 0) (fun _ _ => 0))) (2 : Int32).toInt := own_Js 1 z1 z2 z3 c _ _ ca _ (by decide) hd (own_J1 hd)
theorem d2_0 : decode prog_55_method_1_code 0 = .ok (.aload_n 0, 1) := by decide +kernel
theorem d2_1 : decode prog_55_method_1_code 1 = .ok (.invokespecial 1, 3) := by decide +kernel
theorem d2_4 : decode prog_55_method_1_code 4 = .ok (.aload_n 0, 1) := by decide +kernel
theorem d2_5 : decode prog_55_method_1_code 5 = .ok (.aload_n 1, 1) := by decide +kernel
theorem d2_6 : decode prog_55_method_1_code 6 = .ok (.putfield 7, 3) := by decide +kernel
theorem d2_9 : decode prog_55_method_1_code 9 = .ok (.aload_n 0, 1) := by decide +kernel
theorem d2_10 : decode prog_55_method_1_code 10 = .ok (.aload_n 2, 1) := by decide +kernel
theorem d2_11 : decode prog_55_method_1_code 11 = .ok (.putfield 13, 3) := by decide +kernel
theorem d2_14 : decode prog_55_method_1_code 14 = .ok (.aload_n 0, 1) := by decide +kernel
theorem d2_15 : decode prog_55_method_1_code 15 = .ok (.aload_n 3, 1) := by decide +kernel
theorem d2_16 : decode prog_55_method_1_code 16 = .ok (.putfield 17, 3) := by decide +kernel
theorem d2_19 : decode prog_55_method_1_code 19 = .ok (.aload_n 0, 1) := by decide +kernel
theorem d2_20 : decode prog_55_method_1_code 20 = .ok (.aload 4, 2) := by decide +kernel
theorem d2_22 : decode prog_55_method_1_code 22 = .ok (.putfield 21, 3) := by decide +kernel
theorem d2_25 : decode prog_55_method_1_code 25 = .ok (.return_, 1) := by decide +kernel
theorem ef_2 (m : MethodId) (x0 : Addr) (x1 : Addr) (x2 : Addr) (x3 : Addr) (x4 : Addr) : entryFrame m #[(.ref x0), (.ref x1), (.ref x2), (.ref x3), (.ref x4)] 5 = mkF m 0 #[.val (.ref x0), .val (.ref x1), .val (.ref x2), .val (.ref x3), .val (.ref x4)] [] := by first | (simp [entryFrame, mkF, argsToLocals, Value.category]; done) | rfl
def Q2 (Z : State) (a1 : Addr) (a2 : Addr) (a3 : Addr) (a4 : Addr) (a5 : Addr) (h0 : Heap) (n0 : Nat) (v : Option Value) (h : Heap) (L : List Loc) : Prop := v = none ∧ Fr n0 L ∧ Keep h0 h [a1] ∧ Fld Z h a1 "com/example/podflow/podflow/simulation/Arrivals" "destination" "[I" (.ref a2) ∧ Fld Z h a1 "com/example/podflow/podflow/simulation/Arrivals" "arrival" "[J" (.ref a3) ∧ Fld Z h a1 "com/example/podflow/podflow/simulation/Arrivals" "rows" "[[I" (.ref a4) ∧ Fld Z h a1 "com/example/podflow/podflow/simulation/Arrivals" "sizes" "[I" (.ref a5)
set_option maxRecDepth 65536 in
set_option maxHeartbeats 40000000 in
theorem rm2 (l : Launch) (Z : State) (a0 : Array Value) (hw : ∀ d ∈ tables_1, d.before a0 Z = true) (ws : List Jvm.Cond) (a1 : Addr) (a2 : Addr) (a3 : Addr) (a4 : Addr) (a5 : Addr) (h0 : Heap) (n0 : Nat) (Z0 : n0 ≤ h0.size) (E_a1 : Exa Z h0 a1 "com/example/podflow/podflow/simulation/Arrivals") (g_a1 : n0 ≤ a1) (F_destination_a1 : Fld Z h0 a1 "com/example/podflow/podflow/simulation/Arrivals" "destination" "[I" .null) (F_arrival_a1 : Fld Z h0 a1 "com/example/podflow/podflow/simulation/Arrivals" "arrival" "[J" .null) (F_rows_a1 : Fld Z h0 a1 "com/example/podflow/podflow/simulation/Arrivals" "rows" "[[I" .null) (F_sizes_a1 : Fld Z h0 a1 "com/example/podflow/podflow/simulation/Arrivals" "sizes" "[I" .null) :
    MetFree l (⟨"com/example/podflow/podflow/simulation/Arrivals", "<init>", "([I[J[[I[I)V"⟩ : MethodName) (head1 (Jvm.Cond.code (⟨"com/example/podflow/podflow/simulation/Arrivals", "<init>", "([I[J[[I[I)V"⟩ : MethodName) prog_55_method_1_code 5 none :: ws) ({ frames := 1, cells := 0, slots := 0, locals := 12 } : Room)) (fun a U => a = #[(.ref a1), (.ref a2), (.ref a3), (.ref a4), (.ref a5)] ∧ Z.Warmed39 U.vm ∧ U.heap = h0) (fun _ _ _ _ _ => True) (fun _ U o U' => ∃ v L, o = .returned v ∧ Q2 Z a1 a2 a3 a4 a5 h0 n0 v U'.heap L ∧ FrameEnd U o U' L ({ frames := 1, cells := 0, slots := 0, locals := 12 } : Room).cells ({ frames := 1, cells := 0, slots := 0, locals := 12 } : Room).slots) := by
  refine MetFree.of_bodySF (plainFor_of_name pn_1) hisR ?_
  intro p e s m args below meth c s₁ Bd hml0 hP hK
  obtain ⟨rfl, hZ, hh⟩ := hP
  have hx := Bd.exec
  have hby := Bd.bytes
  have hml : c.maxLocals = 5 := hml0
  have hown : s.vm.findClass "com/example/podflow/podflow/simulation/Arrivals" = some m.cls := findClass_of_methodNamed Bd.named
  have hnm := (name_of_methodNamed Bd.named Bd.method).1
  have X0 : Stand p l e ({ frames := 1, cells := 0, slots := 0, locals := 12 } : Room) s m #[(.ref a1), (.ref a2), (.ref a3), (.ref a4), (.ref a5)] below meth c s₁ [] 0 0 := Stand.of_body Bd
  have e0 : s₁.heap = h0 := by rw [← hh, Bd.state]; rfl
  have N0 := Fr.nil n0
  have pre0 : ∀ t, Steps p.tables e below (s₁.setTop (mkF m 0 #[.val (.ref a1), .val (.ref a2), .val (.ref a3), .val (.ref a4), .val (.ref a5)] [])) t → Steps p.tables e below (s₁.setTop (entryFrame m #[(.ref a1), (.ref a2), (.ref a3), (.ref a4), (.ref a5)] 5)) t := fun t k => castTop (ef_2 m a1 a2 a3 a4 a5) k
  obtain ⟨T6, X6, e6, st6⟩ := initO X0 hx hZ hown (hw _ (List.mem_of_getElem? (i := 13) rfl)) (hw _ (List.mem_of_getElem? (i := 14) rfl)) (hw _ (List.mem_of_getElem? (i := 15) rfl)) e0 (g := (mkF m 1 #[.val (.ref a1), .val (.ref a2), .val (.ref a3), .val (.ref a4), .val (.ref a5)] [(.ref a1)])) rfl (by rw [hml]; rfl) rfl (hb hby d2_1) (by decide) (W := 0) (by show 2 * 0 + _ ≤ _; exact Nat.le_of_eq rfl) (by decide)
  obtain ⟨T7, h7, X7, e7, W7, st7⟩ := putF X6 hx hZ hown (host := "") (Or.inl (hw _ (List.mem_of_getElem? (i := 16) rfl))) Via.refl e6 F_destination_a1 E_a1 (Or.inr ⟨(hw _ (List.mem_of_getElem? (i := 17) rfl)), rfl, hnm⟩) (hw _ (List.mem_of_getElem? (i := 3) rfl)) (ty := (.array .int)) (by decide) rfl rfl (g := (mkF m 6 #[.val (.ref a1), .val (.ref a2), .val (.ref a3), .val (.ref a4), .val (.ref a5)] [(.ref a2), (.ref a1)])) rfl rfl (hb hby d2_6)
  have N7 := Fr.snoc X7 N0 g_a1
  have c8 : n0 ≤ h7.size := Nat.le_trans Z0 (Keep.of_wr W7).1
  have c9 : Exa Z h7 a1 "com/example/podflow/podflow/simulation/Arrivals" := E_a1.wr W7
  have c10 : Fld Z h7 a1 "com/example/podflow/podflow/simulation/Arrivals" "destination" "[I" (.ref a2) := F_destination_a1.same W7
  have c11 : Fld Z h7 a1 "com/example/podflow/podflow/simulation/Arrivals" "arrival" "[J" .null := F_arrival_a1.other W7 (Or.inr (slot_ne (Or.inr (hw _ (List.mem_of_getElem? (i := 19) rfl))) (Or.inr (hw _ (List.mem_of_getElem? (i := 17) rfl))) (by decide) (t := (.array .long)) (t' := (.array .int)) (by decide) (by decide)))
  have c12 : Fld Z h7 a1 "com/example/podflow/podflow/simulation/Arrivals" "rows" "[[I" .null := F_rows_a1.other W7 (Or.inr (slot_ne (Or.inr (hw _ (List.mem_of_getElem? (i := 21) rfl))) (Or.inr (hw _ (List.mem_of_getElem? (i := 17) rfl))) (by decide) (t := (.array (.array .int))) (t' := (.array .int)) (by decide) (by decide)))
  have c13 : Fld Z h7 a1 "com/example/podflow/podflow/simulation/Arrivals" "sizes" "[I" .null := F_sizes_a1.other W7 (Or.inr (slot_ne (Or.inr (hw _ (List.mem_of_getElem? (i := 23) rfl))) (Or.inr (hw _ (List.mem_of_getElem? (i := 17) rfl))) (by decide) (t := (.array .int)) (t' := (.array .int)) (by decide) (by decide)))
  have c14 : Keep h0 h7 [a1] := (Keep.refl h0 [a1]).wr W7 (Or.inl (List.mem_of_getElem? (i := 0) rfl))
  obtain ⟨T15, h15, X15, e15, W15, st15⟩ := putF X7 hx hZ hown (host := "") (Or.inl (hw _ (List.mem_of_getElem? (i := 18) rfl))) Via.refl e7 c11 c9 (Or.inr ⟨(hw _ (List.mem_of_getElem? (i := 19) rfl)), rfl, hnm⟩) (hw _ (List.mem_of_getElem? (i := 3) rfl)) (ty := (.array .long)) (by decide) rfl rfl (g := (mkF m 11 #[.val (.ref a1), .val (.ref a2), .val (.ref a3), .val (.ref a4), .val (.ref a5)] [(.ref a3), (.ref a1)])) rfl rfl (hb hby d2_11)
  have N15 := Fr.snoc X15 N7 g_a1
  have c16 : n0 ≤ h15.size := Nat.le_trans c8 (Keep.of_wr W15).1
  have c17 : Exa Z h15 a1 "com/example/podflow/podflow/simulation/Arrivals" := c9.wr W15
  have c18 : Fld Z h15 a1 "com/example/podflow/podflow/simulation/Arrivals" "destination" "[I" (.ref a2) := c10.other W15 (Or.inr (slot_ne (Or.inr (hw _ (List.mem_of_getElem? (i := 17) rfl))) (Or.inr (hw _ (List.mem_of_getElem? (i := 19) rfl))) (by decide) (t := (.array .int)) (t' := (.array .long)) (by decide) (by decide)))
  have c19 : Fld Z h15 a1 "com/example/podflow/podflow/simulation/Arrivals" "arrival" "[J" (.ref a3) := c11.same W15
  have c20 : Fld Z h15 a1 "com/example/podflow/podflow/simulation/Arrivals" "rows" "[[I" .null := c12.other W15 (Or.inr (slot_ne (Or.inr (hw _ (List.mem_of_getElem? (i := 21) rfl))) (Or.inr (hw _ (List.mem_of_getElem? (i := 19) rfl))) (by decide) (t := (.array (.array .int))) (t' := (.array .long)) (by decide) (by decide)))
  have c21 : Fld Z h15 a1 "com/example/podflow/podflow/simulation/Arrivals" "sizes" "[I" .null := c13.other W15 (Or.inr (slot_ne (Or.inr (hw _ (List.mem_of_getElem? (i := 23) rfl))) (Or.inr (hw _ (List.mem_of_getElem? (i := 19) rfl))) (by decide) (t := (.array .int)) (t' := (.array .long)) (by decide) (by decide)))
  have c22 : Keep h0 h15 [a1] := c14.wr W15 (Or.inl (List.mem_of_getElem? (i := 0) rfl))
  obtain ⟨T23, h23, X23, e23, W23, st23⟩ := putF X15 hx hZ hown (host := "") (Or.inl (hw _ (List.mem_of_getElem? (i := 20) rfl))) Via.refl e15 c20 c17 (Or.inr ⟨(hw _ (List.mem_of_getElem? (i := 21) rfl)), rfl, hnm⟩) (hw _ (List.mem_of_getElem? (i := 3) rfl)) (ty := (.array (.array .int))) (by decide) rfl rfl (g := (mkF m 16 #[.val (.ref a1), .val (.ref a2), .val (.ref a3), .val (.ref a4), .val (.ref a5)] [(.ref a4), (.ref a1)])) rfl rfl (hb hby d2_16)
  have N23 := Fr.snoc X23 N15 g_a1
  have c24 : n0 ≤ h23.size := Nat.le_trans c16 (Keep.of_wr W23).1
  have c25 : Exa Z h23 a1 "com/example/podflow/podflow/simulation/Arrivals" := c17.wr W23
  have c26 : Fld Z h23 a1 "com/example/podflow/podflow/simulation/Arrivals" "destination" "[I" (.ref a2) := c18.other W23 (Or.inr (slot_ne (Or.inr (hw _ (List.mem_of_getElem? (i := 17) rfl))) (Or.inr (hw _ (List.mem_of_getElem? (i := 21) rfl))) (by decide) (t := (.array .int)) (t' := (.array (.array .int))) (by decide) (by decide)))
  have c27 : Fld Z h23 a1 "com/example/podflow/podflow/simulation/Arrivals" "arrival" "[J" (.ref a3) := c19.other W23 (Or.inr (slot_ne (Or.inr (hw _ (List.mem_of_getElem? (i := 19) rfl))) (Or.inr (hw _ (List.mem_of_getElem? (i := 21) rfl))) (by decide) (t := (.array .long)) (t' := (.array (.array .int))) (by decide) (by decide)))
  have c28 : Fld Z h23 a1 "com/example/podflow/podflow/simulation/Arrivals" "rows" "[[I" (.ref a4) := c20.same W23
  have c29 : Fld Z h23 a1 "com/example/podflow/podflow/simulation/Arrivals" "sizes" "[I" .null := c21.other W23 (Or.inr (slot_ne (Or.inr (hw _ (List.mem_of_getElem? (i := 23) rfl))) (Or.inr (hw _ (List.mem_of_getElem? (i := 21) rfl))) (by decide) (t := (.array .int)) (t' := (.array (.array .int))) (by decide) (by decide)))
  have c30 : Keep h0 h23 [a1] := c22.wr W23 (Or.inl (List.mem_of_getElem? (i := 0) rfl))
  obtain ⟨T31, h31, X31, e31, W31, st31⟩ := putF X23 hx hZ hown (host := "") (Or.inl (hw _ (List.mem_of_getElem? (i := 22) rfl))) Via.refl e23 c29 c25 (Or.inr ⟨(hw _ (List.mem_of_getElem? (i := 23) rfl)), rfl, hnm⟩) (hw _ (List.mem_of_getElem? (i := 3) rfl)) (ty := (.array .int)) (by decide) rfl rfl (g := (mkF m 22 #[.val (.ref a1), .val (.ref a2), .val (.ref a3), .val (.ref a4), .val (.ref a5)] [(.ref a5), (.ref a1)])) rfl rfl (hb hby d2_22)
  have N31 := Fr.snoc X31 N23 g_a1
  have c32 : n0 ≤ h31.size := Nat.le_trans c24 (Keep.of_wr W31).1
  have c33 : Exa Z h31 a1 "com/example/podflow/podflow/simulation/Arrivals" := c25.wr W31
  have c34 : Fld Z h31 a1 "com/example/podflow/podflow/simulation/Arrivals" "destination" "[I" (.ref a2) := c26.other W31 (Or.inr (slot_ne (Or.inr (hw _ (List.mem_of_getElem? (i := 17) rfl))) (Or.inr (hw _ (List.mem_of_getElem? (i := 23) rfl))) (by decide) (t := (.array .int)) (t' := (.array .int)) (by decide) (by decide)))
  have c35 : Fld Z h31 a1 "com/example/podflow/podflow/simulation/Arrivals" "arrival" "[J" (.ref a3) := c27.other W31 (Or.inr (slot_ne (Or.inr (hw _ (List.mem_of_getElem? (i := 19) rfl))) (Or.inr (hw _ (List.mem_of_getElem? (i := 23) rfl))) (by decide) (t := (.array .long)) (t' := (.array .int)) (by decide) (by decide)))
  have c36 : Fld Z h31 a1 "com/example/podflow/podflow/simulation/Arrivals" "rows" "[[I" (.ref a4) := c28.other W31 (Or.inr (slot_ne (Or.inr (hw _ (List.mem_of_getElem? (i := 21) rfl))) (Or.inr (hw _ (List.mem_of_getElem? (i := 23) rfl))) (by decide) (t := (.array (.array .int))) (t' := (.array .int)) (by decide) (by decide)))
  have c37 : Fld Z h31 a1 "com/example/podflow/podflow/simulation/Arrivals" "sizes" "[I" (.ref a5) := c29.same W31
  have c38 : Keep h0 h31 [a1] := c30.wr W31 (Or.inl (List.mem_of_getElem? (i := 0) rfl))
  obtain ⟨fs, hr, hrun, hended, hW, hsame⟩ := X31.leave (v := none) (fun _ => rfl)
  refine ⟨_, _, pre0 _ ?_, hrun, hended, _, _, rfl, ?_, ⟨_, rfl⟩, hW, hsame.mono (by decide) (by decide)⟩
  · show Steps p.tables e below (s₁.setTop (mkF m 0 #[.val (.ref a1), .val (.ref a2), .val (.ref a3), .val (.ref a4), .val (.ref a5)] [])) _
    refine XS.aloadN X0.here hx rfl (hb hby d2_0) rfl rfl ?_
    show Steps p.tables e below (s₁.setTop (mkF m 1 #[.val (.ref a1), .val (.ref a2), .val (.ref a3), .val (.ref a4), .val (.ref a5)] [(.ref a1)])) _
    refine st6 _ ?_
    show Steps p.tables e below (T6.setTop (mkF m 4 #[.val (.ref a1), .val (.ref a2), .val (.ref a3), .val (.ref a4), .val (.ref a5)] [])) _
    refine XS.aloadN X6.here hx rfl (hb hby d2_4) rfl rfl ?_
    show Steps p.tables e below (T6.setTop (mkF m 5 #[.val (.ref a1), .val (.ref a2), .val (.ref a3), .val (.ref a4), .val (.ref a5)] [(.ref a1)])) _
    refine XS.aloadN X6.here hx rfl (hb hby d2_5) rfl rfl ?_
    show Steps p.tables e below (T6.setTop (mkF m 6 #[.val (.ref a1), .val (.ref a2), .val (.ref a3), .val (.ref a4), .val (.ref a5)] [(.ref a2), (.ref a1)])) _
    refine st7 _ ?_
    show Steps p.tables e below (T7.setTop (mkF m 9 #[.val (.ref a1), .val (.ref a2), .val (.ref a3), .val (.ref a4), .val (.ref a5)] [])) _
    refine XS.aloadN X7.here hx rfl (hb hby d2_9) rfl rfl ?_
    show Steps p.tables e below (T7.setTop (mkF m 10 #[.val (.ref a1), .val (.ref a2), .val (.ref a3), .val (.ref a4), .val (.ref a5)] [(.ref a1)])) _
    refine XS.aloadN X7.here hx rfl (hb hby d2_10) rfl rfl ?_
    show Steps p.tables e below (T7.setTop (mkF m 11 #[.val (.ref a1), .val (.ref a2), .val (.ref a3), .val (.ref a4), .val (.ref a5)] [(.ref a3), (.ref a1)])) _
    refine st15 _ ?_
    show Steps p.tables e below (T15.setTop (mkF m 14 #[.val (.ref a1), .val (.ref a2), .val (.ref a3), .val (.ref a4), .val (.ref a5)] [])) _
    refine XS.aloadN X15.here hx rfl (hb hby d2_14) rfl rfl ?_
    show Steps p.tables e below (T15.setTop (mkF m 15 #[.val (.ref a1), .val (.ref a2), .val (.ref a3), .val (.ref a4), .val (.ref a5)] [(.ref a1)])) _
    refine XS.aloadN X15.here hx rfl (hb hby d2_15) rfl rfl ?_
    show Steps p.tables e below (T15.setTop (mkF m 16 #[.val (.ref a1), .val (.ref a2), .val (.ref a3), .val (.ref a4), .val (.ref a5)] [(.ref a4), (.ref a1)])) _
    refine st23 _ ?_
    show Steps p.tables e below (T23.setTop (mkF m 19 #[.val (.ref a1), .val (.ref a2), .val (.ref a3), .val (.ref a4), .val (.ref a5)] [])) _
    refine XS.aloadN X23.here hx rfl (hb hby d2_19) rfl rfl ?_
    show Steps p.tables e below (T23.setTop (mkF m 20 #[.val (.ref a1), .val (.ref a2), .val (.ref a3), .val (.ref a4), .val (.ref a5)] [(.ref a1)])) _
    refine XS.aload X23.here hx rfl (hb hby d2_20) rfl rfl ?_
    show Steps p.tables e below (T23.setTop (mkF m 22 #[.val (.ref a1), .val (.ref a2), .val (.ref a3), .val (.ref a4), .val (.ref a5)] [(.ref a5), (.ref a1)])) _
    refine st31 _ ?_
    show Steps p.tables e below (T31.setTop (mkF m 25 #[.val (.ref a1), .val (.ref a2), .val (.ref a3), .val (.ref a4), .val (.ref a5)] [])) _
    exact X31.returnOut hx Bd.returns (hb hby d2_25) hr
  · show Q2 Z a1 a2 a3 a4 a5 h0 n0 _ T31.heap _
    rw [e31]
    exact ⟨rfl, N31, c38, c34, c35, c36, c37⟩
theorem pd_3 : parseMethodDescriptor "([I[J[[I[I)V" = some ⟨[(.array .int), (.array .long), (.array (.array .int)), (.array .int)], none⟩ := by decide +kernel
theorem pd_4 : parseMethodDescriptor "(I)V" = some ⟨[.int], none⟩ := by decide +kernel
theorem d1_0 : decode prog_55_method_2_code 0 = .ok (.aload_n 0, 1) := by decide +kernel
theorem d1_1 : decode prog_55_method_2_code 1 = .ok (.aload_n 2, 1) := by decide +kernel
theorem d1_2 : decode prog_55_method_2_code 2 = .ok (.aload_n 3, 1) := by decide +kernel
theorem d1_3 : decode prog_55_method_2_code 3 = .ok (.iload_n 1, 1) := by decide +kernel
theorem d1_4 : decode prog_55_method_2_code 4 = .ok (.iconst 0, 1) := by decide +kernel
theorem d1_5 : decode prog_55_method_2_code 5 = .ok (.multianewarray 24 2, 4) := by decide +kernel
theorem d1_9 : decode prog_55_method_2_code 9 = .ok (.iload_n 1, 1) := by decide +kernel
theorem d1_10 : decode prog_55_method_2_code 10 = .ok (.newarray .int, 2) := by decide +kernel
theorem d1_12 : decode prog_55_method_2_code 12 = .ok (.invokespecial 25, 3) := by decide +kernel
theorem d1_15 : decode prog_55_method_2_code 15 = .ok (.iconst 0, 1) := by decide +kernel
theorem d1_16 : decode prog_55_method_2_code 16 = .ok (.istore 4, 2) := by decide +kernel
theorem d1_18 : decode prog_55_method_2_code 18 = .ok (.iload 4, 2) := by decide +kernel
theorem d1_20 : decode prog_55_method_2_code 20 = .ok (.aload_n 2, 1) := by decide +kernel
theorem d1_21 : decode prog_55_method_2_code 21 = .ok (.arraylength, 1) := by decide +kernel
theorem d1_22 : decode prog_55_method_2_code 22 = .ok (.if_icmp .ge 15, 3) := by decide +kernel
theorem d1_25 : decode prog_55_method_2_code 25 = .ok (.aload_n 0, 1) := by decide +kernel
theorem d1_26 : decode prog_55_method_2_code 26 = .ok (.iload 4, 2) := by decide +kernel
theorem d1_28 : decode prog_55_method_2_code 28 = .ok (.invokevirtual 28, 3) := by decide +kernel
theorem d1_31 : decode prog_55_method_2_code 31 = .ok (.iinc 4 1, 3) := by decide +kernel
theorem d1_34 : decode prog_55_method_2_code 34 = .ok (.goto (-16), 3) := by decide +kernel
theorem d1_37 : decode prog_55_method_2_code 37 = .ok (.return_, 1) := by decide +kernel
theorem ef_1 (m : MethodId) (x0 : Addr) (x1 : Int32) (x2 : Addr) (x3 : Addr) : entryFrame m #[(.ref x0), (.int x1), (.ref x2), (.ref x3)] 5 = mkF m 0 #[.val (.ref x0), .val (.int x1), .val (.ref x2), .val (.ref x3), .unset] [] := by first | (simp [entryFrame, mkF, argsToLocals, Value.category]; done) | rfl
def f1_x0n (p2 : Int32) (z_a3 : Int32) (c_a3 : Nat → Int32) (z_a4 : Int32) (c_a4 : Nat → Int64) : Int32 := p2
def f1_x0c (p2 : Int32) (z_a3 : Int32) (c_a3 : Nat → Int32) (z_a4 : Int32) (c_a4 : Nat → Int64) : Nat → Int32 := (f4_o0 (2 : Int32) z_a3 c_a3 z_a4 c_a4 p2 (f4_o0 (1 : Int32) z_a3 c_a3 z_a4 c_a4 p2 (f4_o0 (0 : Int32) z_a3 c_a3 z_a4 c_a4 p2 (fun _ => 0) (fun _ => 0) (fun _ _ => 0)) (f4_rn (0 : Int32) z_a3 c_a3 z_a4 c_a4 p2 (fun _ => 0) (fun _ => 0) (fun _ _ => 0)) (f4_rf (0 : Int32) z_a3 c_a3 z_a4 c_a4 p2 (fun _ => 0) (fun _ => 0) (fun _ _ => 0))) (f4_rn (1 : Int32) z_a3 c_a3 z_a4 c_a4 p2 (f4_o0 (0 : Int32) z_a3 c_a3 z_a4 c_a4 p2 (fun _ => 0) (fun _ => 0) (fun _ _ => 0)) (f4_rn (0 : Int32) z_a3 c_a3 z_a4 c_a4 p2 (fun _ => 0) (fun _ => 0) (fun _ _ => 0)) (f4_rf (0 : Int32) z_a3 c_a3 z_a4 c_a4 p2 (fun _ => 0) (fun _ => 0) (fun _ _ => 0))) (f4_rf (1 : Int32) z_a3 c_a3 z_a4 c_a4 p2 (f4_o0 (0 : Int32) z_a3 c_a3 z_a4 c_a4 p2 (fun _ => 0) (fun _ => 0) (fun _ _ => 0)) (f4_rn (0 : Int32) z_a3 c_a3 z_a4 c_a4 p2 (fun _ => 0) (fun _ => 0) (fun _ _ => 0)) (f4_rf (0 : Int32) z_a3 c_a3 z_a4 c_a4 p2 (fun _ => 0) (fun _ => 0) (fun _ _ => 0))))
def f1_rn (p2 : Int32) (z_a3 : Int32) (c_a3 : Nat → Int32) (z_a4 : Int32) (c_a4 : Nat → Int64) : Nat → Int32 := (f4_rn (2 : Int32) z_a3 c_a3 z_a4 c_a4 p2 (f4_o0 (1 : Int32) z_a3 c_a3 z_a4 c_a4 p2 (f4_o0 (0 : Int32) z_a3 c_a3 z_a4 c_a4 p2 (fun _ => 0) (fun _ => 0) (fun _ _ => 0)) (f4_rn (0 : Int32) z_a3 c_a3 z_a4 c_a4 p2 (fun _ => 0) (fun _ => 0) (fun _ _ => 0)) (f4_rf (0 : Int32) z_a3 c_a3 z_a4 c_a4 p2 (fun _ => 0) (fun _ => 0) (fun _ _ => 0))) (f4_rn (1 : Int32) z_a3 c_a3 z_a4 c_a4 p2 (f4_o0 (0 : Int32) z_a3 c_a3 z_a4 c_a4 p2 (fun _ => 0) (fun _ => 0) (fun _ _ => 0)) (f4_rn (0 : Int32) z_a3 c_a3 z_a4 c_a4 p2 (fun _ => 0) (fun _ => 0) (fun _ _ => 0)) (f4_rf (0 : Int32) z_a3 c_a3 z_a4 c_a4 p2 (fun _ => 0) (fun _ => 0) (fun _ _ => 0))) (f4_rf (1 : Int32) z_a3 c_a3 z_a4 c_a4 p2 (f4_o0 (0 : Int32) z_a3 c_a3 z_a4 c_a4 p2 (fun _ => 0) (fun _ => 0) (fun _ _ => 0)) (f4_rn (0 : Int32) z_a3 c_a3 z_a4 c_a4 p2 (fun _ => 0) (fun _ => 0) (fun _ _ => 0)) (f4_rf (0 : Int32) z_a3 c_a3 z_a4 c_a4 p2 (fun _ => 0) (fun _ => 0) (fun _ _ => 0))))
def f1_rf (p2 : Int32) (z_a3 : Int32) (c_a3 : Nat → Int32) (z_a4 : Int32) (c_a4 : Nat → Int64) : Nat → Nat → Int32 := (f4_rf (2 : Int32) z_a3 c_a3 z_a4 c_a4 p2 (f4_o0 (1 : Int32) z_a3 c_a3 z_a4 c_a4 p2 (f4_o0 (0 : Int32) z_a3 c_a3 z_a4 c_a4 p2 (fun _ => 0) (fun _ => 0) (fun _ _ => 0)) (f4_rn (0 : Int32) z_a3 c_a3 z_a4 c_a4 p2 (fun _ => 0) (fun _ => 0) (fun _ _ => 0)) (f4_rf (0 : Int32) z_a3 c_a3 z_a4 c_a4 p2 (fun _ => 0) (fun _ => 0) (fun _ _ => 0))) (f4_rn (1 : Int32) z_a3 c_a3 z_a4 c_a4 p2 (f4_o0 (0 : Int32) z_a3 c_a3 z_a4 c_a4 p2 (fun _ => 0) (fun _ => 0) (fun _ _ => 0)) (f4_rn (0 : Int32) z_a3 c_a3 z_a4 c_a4 p2 (fun _ => 0) (fun _ => 0) (fun _ _ => 0)) (f4_rf (0 : Int32) z_a3 c_a3 z_a4 c_a4 p2 (fun _ => 0) (fun _ => 0) (fun _ _ => 0))) (f4_rf (1 : Int32) z_a3 c_a3 z_a4 c_a4 p2 (f4_o0 (0 : Int32) z_a3 c_a3 z_a4 c_a4 p2 (fun _ => 0) (fun _ => 0) (fun _ _ => 0)) (f4_rn (0 : Int32) z_a3 c_a3 z_a4 c_a4 p2 (fun _ => 0) (fun _ => 0) (fun _ _ => 0)) (f4_rf (0 : Int32) z_a3 c_a3 z_a4 c_a4 p2 (fun _ => 0) (fun _ => 0) (fun _ _ => 0))))
def Q1 (Z : State) (a1 : Addr) (p2 : Int32) (a3 : Addr) (a4 : Addr) (z_a3 : Int32) (c_a3 : Nat → Int32) (z_a4 : Int32) (c_a4 : Nat → Int64) (h0 : Heap) (n0 : Nat) (v : Option Value) (h : Heap) (L : List Loc) : Prop := ∃ cO : Nat → Addr, ∃ (r0 : Addr) (r1 : Addr), v = none ∧ Fr n0 L ∧ Keep h0 h [a1] ∧ Fld Z h a1 "com/example/podflow/podflow/simulation/Arrivals" "destination" "[I" (.ref a3) ∧ Fld Z h a1 "com/example/podflow/podflow/simulation/Arrivals" "arrival" "[J" (.ref a4) ∧ OwnR Z h r1 cO (f1_rn p2 z_a3 c_a3 z_a4 c_a4) (f1_rf p2 z_a3 c_a3 z_a4 c_a4) [r0, a1, a3, a4] h0.size ∧ h0.size ≤ r0 ∧ IAr Z h r0 .int (f1_x0n p2 z_a3 c_a3 z_a4 c_a4) (f1_x0c p2 z_a3 c_a3 z_a4 c_a4) ∧ Fld Z h a1 "com/example/podflow/podflow/simulation/Arrivals" "sizes" "[I" (.ref r0) ∧ Fld Z h a1 "com/example/podflow/podflow/simulation/Arrivals" "rows" "[[I" (.ref r1)
set_option maxRecDepth 65536 in
set_option maxHeartbeats 40000000 in
theorem rm1 (l : Launch) (Z : State) (a0 : Array Value) (hw : ∀ d ∈ tables_1, d.before a0 Z = true) (ws : List Jvm.Cond) (a1 : Addr) (p2 : Int32) (a3 : Addr) (a4 : Addr) (z_a3 : Int32) (c_a3 : Nat → Int32) (z_a4 : Int32) (c_a4 : Nat → Int64) (h0 : Heap) (n0 : Nat) (Z0 : n0 ≤ h0.size) (E_a1 : Exa Z h0 a1 "com/example/podflow/podflow/simulation/Arrivals") (g_a1 : n0 ≤ a1) (F_destination_a1 : Fld Z h0 a1 "com/example/podflow/podflow/simulation/Arrivals" "destination" "[I" .null) (F_arrival_a1 : Fld Z h0 a1 "com/example/podflow/podflow/simulation/Arrivals" "arrival" "[J" .null) (F_rows_a1 : Fld Z h0 a1 "com/example/podflow/podflow/simulation/Arrivals" "rows" "[[I" .null) (F_sizes_a1 : Fld Z h0 a1 "com/example/podflow/podflow/simulation/Arrivals" "sizes" "[I" .null) (V_a3 : IAr Z h0 a3 .int z_a3 c_a3) (V_a4 : LAr Z h0 a4  z_a4 c_a4) (ne_a1_a3 : a1 ≠ a3) (ne_a1_a4 : a1 ≠ a4) (ne_a3_a4 : a3 ≠ a4) (hp : p2 = 4) (hz : z_a3 = 3) (hz4 : z_a4 = 3) (hd : ∀ i, 0 ≤ (c_a3 i).toInt ∧ (c_a3 i).toInt < 4) :
    MetFree l (⟨"com/example/podflow/podflow/simulation/Arrivals", "<init>", "(I[I[J)V"⟩ : MethodName) (head1 (Jvm.Cond.code (⟨"com/example/podflow/podflow/simulation/Arrivals", "<init>", "(I[I[J)V"⟩ : MethodName) prog_55_method_2_code 5 none :: ws) ({ frames := 3, cells := 9, slots := 20, locals := 60 } : Room)) (fun a U => a = #[(.ref a1), (.int p2), (.ref a3), (.ref a4)] ∧ Z.Warmed39 U.vm ∧ U.heap = h0) (fun _ _ _ _ _ => True) (fun _ U o U' => ∃ v L, o = .returned v ∧ Q1 Z a1 p2 a3 a4 z_a3 c_a3 z_a4 c_a4 h0 n0 v U'.heap L ∧ FrameEnd U o U' L ({ frames := 3, cells := 9, slots := 20, locals := 60 } : Room).cells ({ frames := 3, cells := 9, slots := 20, locals := 60 } : Room).slots) := by
  refine MetFree.of_bodySF (plainFor_of_name pn_1) hisR ?_
  intro p e s m args below meth c s₁ Bd hml0 hP hK
  obtain ⟨rfl, hZ, hh⟩ := hP
  have hx := Bd.exec
  have hby := Bd.bytes
  have hml : c.maxLocals = 5 := hml0
  have hown : s.vm.findClass "com/example/podflow/podflow/simulation/Arrivals" = some m.cls := findClass_of_methodNamed Bd.named
  have hnm := (name_of_methodNamed Bd.named Bd.method).1
  have X0 : Stand p l e ({ frames := 3, cells := 9, slots := 20, locals := 60 } : Room) s m #[(.ref a1), (.int p2), (.ref a3), (.ref a4)] below meth c s₁ [] 0 0 := Stand.of_body Bd
  have e0 : s₁.heap = h0 := by rw [← hh, Bd.state]; rfl
  have N0 := Fr.nil n0
  have pre0 : ∀ t, Steps p.tables e below (s₁.setTop (mkF m 0 #[.val (.ref a1), .val (.int p2), .val (.ref a3), .val (.ref a4), .unset] [])) t → Steps p.tables e below (s₁.setTop (entryFrame m #[(.ref a1), (.int p2), (.ref a3), (.ref a4)] 5)) t := fun t k => castTop (ef_1 m a1 p2 a3 a4) k
  obtain ⟨T5, h5, X5, e5, E5, A5, st5⟩ := own_grid X0 hx hZ hown (hw _ (List.mem_of_getElem? (i := 8) rfl)) (hw _ (List.mem_of_getElem? (i := 9) rfl)) (hw _ (List.mem_of_getElem? (i := 0) rfl)) e0 (bad := [a1, a3, a4]) (n0 := h0.size) (own_ltS F_sizes_a1.lt (own_ltS V_a3.lt (own_ltS V_a4.lt own_lt0))) (Keep.refl h0 [a1]).1 (n := p2) hp (g := (mkF m 5 #[.val (.ref a1), .val (.int p2), .val (.ref a3), .val (.ref a4), .unset] [(.int (0 : Int32)), (.int p2), (.ref a4), (.ref a3), (.ref a1)])) rfl (hb hby d1_5) rfl (by decide) (by decide)
  obtain ⟨b5, g5⟩ : ∃ z, z = h0.size := ⟨_, rfl⟩
  rw [← g5] at st5
  obtain ⟨c5x, gc5⟩ : ∃ z : Nat → Addr, z = (fun i => b5 + 1 + i) := ⟨_, rfl⟩
  have A5q : OwnR Z h5 b5 c5x (fun _ => 0) (fun _ _ => 0) [a1, a3, a4] h0.size := by rw [gc5, g5]; exact A5
  have ne_a1_b5 : a1 ≠ b5 := Nat.ne_of_lt (Nat.lt_of_lt_of_le E_a1.lt (Nat.le_of_eq g5.symm))
  have ne_a3_b5 : a3 ≠ b5 := Nat.ne_of_lt (Nat.lt_of_lt_of_le V_a3.lt (Nat.le_of_eq g5.symm))
  have ne_a4_b5 : a4 ≠ b5 := Nat.ne_of_lt (Nat.lt_of_lt_of_le V_a4.lt (Nat.le_of_eq g5.symm))
  have g_b5 : n0 ≤ b5 := Nat.le_trans Z0 (Nat.le_of_eq g5.symm)
  have sz_b5 : h0.size ≤ b5 := Nat.le_trans (Keep.refl h0 [a1]).1 (Nat.le_of_eq g5.symm)
  have c6 : n0 ≤ h5.size := Nat.le_trans Z0 E5.1
  have c7 : Exa Z h5 a1 "com/example/podflow/podflow/simulation/Arrivals" := E_a1.ext E5
  have c8 : Fld Z h5 a1 "com/example/podflow/podflow/simulation/Arrivals" "destination" "[I" .null := F_destination_a1.ext E5
  have c9 : Fld Z h5 a1 "com/example/podflow/podflow/simulation/Arrivals" "arrival" "[J" .null := F_arrival_a1.ext E5
  have c10 : Fld Z h5 a1 "com/example/podflow/podflow/simulation/Arrivals" "rows" "[[I" .null := F_rows_a1.ext E5
  have c11 : Fld Z h5 a1 "com/example/podflow/podflow/simulation/Arrivals" "sizes" "[I" .null := F_sizes_a1.ext E5
  have c12 : IAr Z h5 a3 .int z_a3 c_a3 := V_a3.ext E5
  have c13 : LAr Z h5 a4  z_a4 c_a4 := V_a4.ext E5
  have c14 : Keep h0 h5 [a1] := (Keep.refl h0 [a1]).ext E5
  obtain ⟨T15, h15, k15, X15, e15, E15, A15, st15⟩ := newP X5 hx hZ (hw _ (List.mem_of_getElem? (i := 0) rfl)) e5 (g := (mkF m 10 #[.val (.ref a1), .val (.int p2), .val (.ref a3), .val (.ref a4), .unset] [(.int p2), (.ref b5), (.ref a4), (.ref a3), (.ref a1)])) rfl (hb hby d1_10) rfl (by rw [hp]; decide) (cap := 4) (by rw [hp]; decide) (by decide) (by decide) (by decide)
  obtain ⟨b15, g15⟩ : ∃ z, z = h5.size := ⟨_, rfl⟩
  rw [← g15] at A15 st15
  have ne_a1_b15 : a1 ≠ b15 := Nat.ne_of_lt (Nat.lt_of_lt_of_le c7.lt (Nat.le_of_eq g15.symm))
  have ne_a3_b15 : a3 ≠ b15 := Nat.ne_of_lt (Nat.lt_of_lt_of_le c12.lt (Nat.le_of_eq g15.symm))
  have ne_a4_b15 : a4 ≠ b15 := Nat.ne_of_lt (Nat.lt_of_lt_of_le c13.lt (Nat.le_of_eq g15.symm))
  have nr_b15 : b5 ≠ b15 := Nat.ne_of_lt (Nat.lt_of_lt_of_le A5q.1.lt (Nat.le_of_eq g15.symm))
  have nq_b15 : ∀ i, i < 4 → c5x i ≠ b15 := fun i hi => Nat.ne_of_lt (Nat.lt_of_lt_of_le (A5q.2.2.2.1 i hi).1.lt (Nat.le_of_eq g15.symm))
  have g_b15 : n0 ≤ b15 := Nat.le_trans c6 (Nat.le_of_eq g15.symm)
  have sz_b15 : h0.size ≤ b15 := Nat.le_trans c14.1 (Nat.le_of_eq g15.symm)
  have c16 : n0 ≤ h15.size := Nat.le_trans c6 E15.1
  have c17 : Exa Z h15 a1 "com/example/podflow/podflow/simulation/Arrivals" := c7.ext E15
  have c18 : Fld Z h15 a1 "com/example/podflow/podflow/simulation/Arrivals" "destination" "[I" .null := c8.ext E15
  have c19 : Fld Z h15 a1 "com/example/podflow/podflow/simulation/Arrivals" "arrival" "[J" .null := c9.ext E15
  have c20 : Fld Z h15 a1 "com/example/podflow/podflow/simulation/Arrivals" "rows" "[[I" .null := c10.ext E15
  have c21 : Fld Z h15 a1 "com/example/podflow/podflow/simulation/Arrivals" "sizes" "[I" .null := c11.ext E15
  have c22 : IAr Z h15 a3 .int z_a3 c_a3 := c12.ext E15
  have c23 : LAr Z h15 a4  z_a4 c_a4 := c13.ext E15
  have c24 : Keep h0 h15 [a1] := c14.ext E15
  have c25 : OwnR Z h15 b5 c5x (fun _ => 0) (fun _ _ => 0) [a1, a3, a4] h0.size := A5q.ext E15
  have c27 : OwnR Z h15 b5 c5x (fun _ => 0) (fun _ _ => 0) [b15, a1, a3, a4] h0.size := c25.badS nr_b15 nq_b15
  have c26 : IAr Z h15 b15 .int p2 (fun _ => 0) := IAr.new A15 (by rw [hp]; decide) rfl
  obtain ⟨_, _, ⟨T28, L28, k28, n28⟩, -, X28, ⟨Lc28, hQ28, l28, y28, z28⟩, st28⟩ := X15.specialBack hx (y := (⟨"com/example/podflow/podflow/simulation/Arrivals", "<init>", "([I[J[[I[I)V"⟩ : MethodName)) rfl hown (mvT hZ (hw _ (List.mem_of_getElem? (i := 10) rfl))) (mvT hZ (hw _ (List.mem_of_getElem? (i := 11) rfl))) (mvT hZ (hw _ (List.mem_of_getElem? (i := 12) rfl))) (by decide) (backOf (W := 0) (rm2 l Z a0 hw [] a1 a3 a4 b5 b15 h15 n0 c16 c17 g_a1 c18 c19 c20 c21) hZ (hw _ (List.mem_of_getElem? (i := 12) rfl)) (hw _ (List.mem_of_getElem? (i := 4) rfl)) (by decide) (by decide)) (g := (mkF m 12 #[.val (.ref a1), .val (.int p2), .val (.ref a3), .val (.ref a4), .unset] [(.ref b15), (.ref b5), (.ref a4), (.ref a3), (.ref a1)])) rfl (by rw [hml]; rfl) (Steps.refl _) (a := a1) (argsL := [(.ref a3), (.ref a4), (.ref b5), (.ref b15)]) (rest := []) (lenOf pd_3 rfl) rfl (by show 2 * 0 + _ ≤ _; exact Nat.le_of_eq rfl) (hb hby d1_12) (fun _ _ => ⟨rfl, e15, (by decide : 6 + 0 ≤ _), (by decide : 8 + 0 ≤ _)⟩)
  dsimp only [Pt.U, Pt.locs, Pt.cells, Pt.slots] at X28 l28 y28 z28 st28 hQ28
  subst l28 y28 z28
  obtain ⟨rfl, N28q, K28, o28_0, o28_1, o28_2, o28_3⟩ := hQ28
  have N28 := Fr.app N0 N28q
  have c29 : n0 ≤ T28.heap.size := Nat.le_trans c16 K28.1
  have c30 : Exa Z T28.heap a1 "com/example/podflow/podflow/simulation/Arrivals" := c17.keep K28
  have c31 : Fld Z T28.heap a1 "com/example/podflow/podflow/simulation/Arrivals" "destination" "[I" (.ref a3) := o28_0
  have c32 : Fld Z T28.heap a1 "com/example/podflow/podflow/simulation/Arrivals" "arrival" "[J" (.ref a4) := o28_1
  have c33 : Fld Z T28.heap a1 "com/example/podflow/podflow/simulation/Arrivals" "rows" "[[I" (.ref b5) := o28_2
  have c34 : Fld Z T28.heap a1 "com/example/podflow/podflow/simulation/Arrivals" "sizes" "[I" (.ref b15) := o28_3
  have c35 : IAr Z T28.heap a3 .int z_a3 c_a3 := c22.keep K28 (ninS (Ne.symm ne_a1_a3) nin0)
  have c36 : LAr Z T28.heap a4  z_a4 c_a4 := c23.keep K28 (ninS (Ne.symm ne_a1_a4) nin0)
  have c37 : Keep h0 T28.heap [a1] := c24.trans K28 (allS (Or.inl (List.mem_of_getElem? (i := 0) rfl)) all0)
  have c38 : OwnR Z T28.heap b5 c5x (fun _ => 0) (fun _ _ => 0) [b15, a1, a3, a4] h0.size := c27.keep K28 (own_inS (List.mem_of_getElem? (i := 1) rfl) own_in0)
  have c39 : IAr Z T28.heap b15 .int p2 (fun _ => 0) := c26.keep K28 (ninS (Ne.symm ne_a1_b15) nin0)
  obtain ⟨cq40, kq40, q40a, q40b, q40c⟩ := isOf hZ rfl c30
  obtain ⟨_, _, ⟨T40, L40, k40, n40⟩, -, X40, ⟨Lc40, hQ40, l40, y40, z40⟩, st40⟩ := X28.virtualBack hx (y := (⟨"com/example/podflow/podflow/simulation/Arrivals", "add", "(I)V"⟩ : MethodName)) (z := (⟨"com/example/podflow/podflow/simulation/Arrivals", "add", "(I)V"⟩ : MethodName)) hown (mvT hZ (hw _ (List.mem_of_getElem? (i := 24) rfl))) (mvT hZ (hw _ (List.mem_of_getElem? (i := 25) rfl))) (notFace_of_selects (args := #[]) (mvT hZ (hw _ (List.mem_of_getElem? (i := 27) rfl)))) (mvT hZ (hw _ (List.mem_of_getElem? (i := 27) rfl))) (mvT hZ (hw _ (List.mem_of_getElem? (i := 26) rfl))) (by decide) (backOf (W := 0) (rm4 l Z a0 hw [] a1 (0 : Int32) a3 a4 b5 b15 z_a3 c_a3 z_a4 c_a4 p2 (fun _ => 0) c5x (fun _ => 0) (fun _ _ => 0) h0.size T28.heap n0 c29 c30 c31 c32 c33 c34 c35 c36 c39 g_b15 c38 Z0 (Ne.symm ne_a1_b15) (Ne.symm ne_a3_b15) (Ne.symm ne_a4_b15) (by decide) ⟨hz, hz4, hp⟩ hd (own_J0 hd) c37.1) hZ (hw _ (List.mem_of_getElem? (i := 28) rfl)) (hw _ (List.mem_of_getElem? (i := 4) rfl)) (by decide) (by decide)) q40a q40c (g := (mkF m 28 #[.val (.ref a1), .val (.int p2), .val (.ref a3), .val (.ref a4), .val (.int (0 : Int32))] [(.int (0 : Int32)), (.ref a1)])) rfl (by rw [hml]; rfl) (Steps.refl _) (argsL := [(.int (0 : Int32))]) (rest := []) (lenOf pd_4 rfl) rfl (by show 2 * 0 + _ ≤ _; exact Nat.le_of_eq rfl) (hb hby d1_28) (fun _ _ => ⟨rfl, rfl, (by decide : 6 + 1 ≤ _), (by decide : 8 + 4 ≤ _)⟩)
  dsimp only [Pt.U, Pt.locs, Pt.cells, Pt.slots] at X40 l40 y40 z40 st40 hQ40
  subst l40 y40 z40
  obtain ⟨cO40, rfl, N40q, K40, o40_0, oO40⟩ := hQ40
  have N40 := Fr.app N28 N40q
  have c41 : n0 ≤ T40.heap.size := Nat.le_trans c29 K40.1
  have c42 : Exa Z T40.heap a1 "com/example/podflow/podflow/simulation/Arrivals" := c30.keep K40
  have c43 : Fld Z T40.heap a1 "com/example/podflow/podflow/simulation/Arrivals" "destination" "[I" (.ref a3) := c31.keep K40 (ninS ne_a1_b5 (ninS ne_a1_b15 (ninS (Ne.symm ((c38.2.2.2.2.2 _ (List.mem_of_getElem? (i := 1) rfl)).2 _ (own_d4 (hd _)))) nin0)))
  have c44 : Fld Z T40.heap a1 "com/example/podflow/podflow/simulation/Arrivals" "arrival" "[J" (.ref a4) := c32.keep K40 (ninS ne_a1_b5 (ninS ne_a1_b15 (ninS (Ne.symm ((c38.2.2.2.2.2 _ (List.mem_of_getElem? (i := 1) rfl)).2 _ (own_d4 (hd _)))) nin0)))
  have c45 : Fld Z T40.heap a1 "com/example/podflow/podflow/simulation/Arrivals" "rows" "[[I" (.ref b5) := c33.keep K40 (ninS ne_a1_b5 (ninS ne_a1_b15 (ninS (Ne.symm ((c38.2.2.2.2.2 _ (List.mem_of_getElem? (i := 1) rfl)).2 _ (own_d4 (hd _)))) nin0)))
  have c46 : Fld Z T40.heap a1 "com/example/podflow/podflow/simulation/Arrivals" "sizes" "[I" (.ref b15) := c34.keep K40 (ninS ne_a1_b5 (ninS ne_a1_b15 (ninS (Ne.symm ((c38.2.2.2.2.2 _ (List.mem_of_getElem? (i := 1) rfl)).2 _ (own_d4 (hd _)))) nin0)))
  have c47 : IAr Z T40.heap a3 .int z_a3 c_a3 := c35.keep K40 (ninS ne_a3_b5 (ninS ne_a3_b15 (ninS (Ne.symm ((c38.2.2.2.2.2 _ (List.mem_of_getElem? (i := 2) rfl)).2 _ (own_d4 (hd _)))) nin0)))
  have c48 : LAr Z T40.heap a4  z_a4 c_a4 := c36.keep K40 (ninS ne_a4_b5 (ninS ne_a4_b15 (ninS (Ne.symm ((c38.2.2.2.2.2 _ (List.mem_of_getElem? (i := 3) rfl)).2 _ (own_d4 (hd _)))) nin0)))
  have c49 : Keep h0 T40.heap [a1] := c37.trans K40 (allS (Or.inr c38.2.2.1) (allS (Or.inr sz_b15) (allS (Or.inr (c38.2.2.2.1 ((c_a3 ((0 : Int32)).toNatClampNeg)).toNatClampNeg (own_d4 (hd _))).2.1) all0)))
  have c50 : OwnR Z T40.heap b5 cO40 (f4_rn (0 : Int32) z_a3 c_a3 z_a4 c_a4 p2 (fun _ => 0) (fun _ => 0) (fun _ _ => 0)) (f4_rf (0 : Int32) z_a3 c_a3 z_a4 c_a4 p2 (fun _ => 0) (fun _ => 0) (fun _ _ => 0)) [b15, a1, a3, a4] h0.size := oO40
  have c51 : IAr Z T40.heap b15 .int p2 (f4_o0 (0 : Int32) z_a3 c_a3 z_a4 c_a4 p2 (fun _ => 0) (fun _ => 0) (fun _ _ => 0)) := o40_0
  obtain ⟨cq52, kq52, q52a, q52b, q52c⟩ := isOf hZ rfl c42
  obtain ⟨_, _, ⟨T52, L52, k52, n52⟩, -, X52, ⟨Lc52, hQ52, l52, y52, z52⟩, st52⟩ := X40.virtualBack hx (y := (⟨"com/example/podflow/podflow/simulation/Arrivals", "add", "(I)V"⟩ : MethodName)) (z := (⟨"com/example/podflow/podflow/simulation/Arrivals", "add", "(I)V"⟩ : MethodName)) hown (mvT hZ (hw _ (List.mem_of_getElem? (i := 24) rfl))) (mvT hZ (hw _ (List.mem_of_getElem? (i := 25) rfl))) (notFace_of_selects (args := #[]) (mvT hZ (hw _ (List.mem_of_getElem? (i := 27) rfl)))) (mvT hZ (hw _ (List.mem_of_getElem? (i := 27) rfl))) (mvT hZ (hw _ (List.mem_of_getElem? (i := 26) rfl))) (by decide) (backOf (W := 0) (rm4 l Z a0 hw [] a1 (1 : Int32) a3 a4 b5 b15 z_a3 c_a3 z_a4 c_a4 p2 (f4_o0 (0 : Int32) z_a3 c_a3 z_a4 c_a4 p2 (fun _ => 0) (fun _ => 0) (fun _ _ => 0)) cO40 (f4_rn (0 : Int32) z_a3 c_a3 z_a4 c_a4 p2 (fun _ => 0) (fun _ => 0) (fun _ _ => 0)) (f4_rf (0 : Int32) z_a3 c_a3 z_a4 c_a4 p2 (fun _ => 0) (fun _ => 0) (fun _ _ => 0)) h0.size T40.heap n0 c41 c42 c43 c44 c45 c46 c47 c48 c51 g_b15 c50 Z0 (Ne.symm ne_a1_b15) (Ne.symm ne_a3_b15) (Ne.symm ne_a4_b15) (by decide) ⟨hz, hz4, hp⟩ hd (own_J1 hd) c49.1) hZ (hw _ (List.mem_of_getElem? (i := 28) rfl)) (hw _ (List.mem_of_getElem? (i := 4) rfl)) (by decide) (by decide)) q52a q52c (g := (mkF m 28 #[.val (.ref a1), .val (.int p2), .val (.ref a3), .val (.ref a4), .val (.int (1 : Int32))] [(.int (1 : Int32)), (.ref a1)])) rfl (by rw [hml]; rfl) (Steps.refl _) (argsL := [(.int (1 : Int32))]) (rest := []) (lenOf pd_4 rfl) rfl (by show 2 * 0 + _ ≤ _; exact Nat.le_of_eq rfl) (hb hby d1_28) (fun _ _ => ⟨rfl, rfl, (by decide : 7 + 1 ≤ _), (by decide : 12 + 4 ≤ _)⟩)
  dsimp only [Pt.U, Pt.locs, Pt.cells, Pt.slots] at X52 l52 y52 z52 st52 hQ52
  subst l52 y52 z52
  obtain ⟨cO52, rfl, N52q, K52, o52_0, oO52⟩ := hQ52
  have N52 := Fr.app N40 N52q
  have c53 : n0 ≤ T52.heap.size := Nat.le_trans c41 K52.1
  have c54 : Exa Z T52.heap a1 "com/example/podflow/podflow/simulation/Arrivals" := c42.keep K52
  have c55 : Fld Z T52.heap a1 "com/example/podflow/podflow/simulation/Arrivals" "destination" "[I" (.ref a3) := c43.keep K52 (ninS ne_a1_b5 (ninS ne_a1_b15 (ninS (Ne.symm ((c50.2.2.2.2.2 _ (List.mem_of_getElem? (i := 1) rfl)).2 _ (own_d4 (hd _)))) nin0)))
  have c56 : Fld Z T52.heap a1 "com/example/podflow/podflow/simulation/Arrivals" "arrival" "[J" (.ref a4) := c44.keep K52 (ninS ne_a1_b5 (ninS ne_a1_b15 (ninS (Ne.symm ((c50.2.2.2.2.2 _ (List.mem_of_getElem? (i := 1) rfl)).2 _ (own_d4 (hd _)))) nin0)))
  have c57 : Fld Z T52.heap a1 "com/example/podflow/podflow/simulation/Arrivals" "rows" "[[I" (.ref b5) := c45.keep K52 (ninS ne_a1_b5 (ninS ne_a1_b15 (ninS (Ne.symm ((c50.2.2.2.2.2 _ (List.mem_of_getElem? (i := 1) rfl)).2 _ (own_d4 (hd _)))) nin0)))
  have c58 : Fld Z T52.heap a1 "com/example/podflow/podflow/simulation/Arrivals" "sizes" "[I" (.ref b15) := c46.keep K52 (ninS ne_a1_b5 (ninS ne_a1_b15 (ninS (Ne.symm ((c50.2.2.2.2.2 _ (List.mem_of_getElem? (i := 1) rfl)).2 _ (own_d4 (hd _)))) nin0)))
  have c59 : IAr Z T52.heap a3 .int z_a3 c_a3 := c47.keep K52 (ninS ne_a3_b5 (ninS ne_a3_b15 (ninS (Ne.symm ((c50.2.2.2.2.2 _ (List.mem_of_getElem? (i := 2) rfl)).2 _ (own_d4 (hd _)))) nin0)))
  have c60 : LAr Z T52.heap a4  z_a4 c_a4 := c48.keep K52 (ninS ne_a4_b5 (ninS ne_a4_b15 (ninS (Ne.symm ((c50.2.2.2.2.2 _ (List.mem_of_getElem? (i := 3) rfl)).2 _ (own_d4 (hd _)))) nin0)))
  have c61 : Keep h0 T52.heap [a1] := c49.trans K52 (allS (Or.inr c50.2.2.1) (allS (Or.inr sz_b15) (allS (Or.inr (c50.2.2.2.1 ((c_a3 ((1 : Int32)).toNatClampNeg)).toNatClampNeg (own_d4 (hd _))).2.1) all0)))
  have c62 : OwnR Z T52.heap b5 cO52 (f4_rn (1 : Int32) z_a3 c_a3 z_a4 c_a4 p2 (f4_o0 (0 : Int32) z_a3 c_a3 z_a4 c_a4 p2 (fun _ => 0) (fun _ => 0) (fun _ _ => 0)) (f4_rn (0 : Int32) z_a3 c_a3 z_a4 c_a4 p2 (fun _ => 0) (fun _ => 0) (fun _ _ => 0)) (f4_rf (0 : Int32) z_a3 c_a3 z_a4 c_a4 p2 (fun _ => 0) (fun _ => 0) (fun _ _ => 0))) (f4_rf (1 : Int32) z_a3 c_a3 z_a4 c_a4 p2 (f4_o0 (0 : Int32) z_a3 c_a3 z_a4 c_a4 p2 (fun _ => 0) (fun _ => 0) (fun _ _ => 0)) (f4_rn (0 : Int32) z_a3 c_a3 z_a4 c_a4 p2 (fun _ => 0) (fun _ => 0) (fun _ _ => 0)) (f4_rf (0 : Int32) z_a3 c_a3 z_a4 c_a4 p2 (fun _ => 0) (fun _ => 0) (fun _ _ => 0))) [b15, a1, a3, a4] h0.size := oO52
  have c63 : IAr Z T52.heap b15 .int p2 (f4_o0 (1 : Int32) z_a3 c_a3 z_a4 c_a4 p2 (f4_o0 (0 : Int32) z_a3 c_a3 z_a4 c_a4 p2 (fun _ => 0) (fun _ => 0) (fun _ _ => 0)) (f4_rn (0 : Int32) z_a3 c_a3 z_a4 c_a4 p2 (fun _ => 0) (fun _ => 0) (fun _ _ => 0)) (f4_rf (0 : Int32) z_a3 c_a3 z_a4 c_a4 p2 (fun _ => 0) (fun _ => 0) (fun _ _ => 0))) := o52_0
  obtain ⟨cq64, kq64, q64a, q64b, q64c⟩ := isOf hZ rfl c54
  obtain ⟨_, _, ⟨T64, L64, k64, n64⟩, -, X64, ⟨Lc64, hQ64, l64, y64, z64⟩, st64⟩ := X52.virtualBack hx (y := (⟨"com/example/podflow/podflow/simulation/Arrivals", "add", "(I)V"⟩ : MethodName)) (z := (⟨"com/example/podflow/podflow/simulation/Arrivals", "add", "(I)V"⟩ : MethodName)) hown (mvT hZ (hw _ (List.mem_of_getElem? (i := 24) rfl))) (mvT hZ (hw _ (List.mem_of_getElem? (i := 25) rfl))) (notFace_of_selects (args := #[]) (mvT hZ (hw _ (List.mem_of_getElem? (i := 27) rfl)))) (mvT hZ (hw _ (List.mem_of_getElem? (i := 27) rfl))) (mvT hZ (hw _ (List.mem_of_getElem? (i := 26) rfl))) (by decide) (backOf (W := 0) (rm4 l Z a0 hw [] a1 (2 : Int32) a3 a4 b5 b15 z_a3 c_a3 z_a4 c_a4 p2 (f4_o0 (1 : Int32) z_a3 c_a3 z_a4 c_a4 p2 (f4_o0 (0 : Int32) z_a3 c_a3 z_a4 c_a4 p2 (fun _ => 0) (fun _ => 0) (fun _ _ => 0)) (f4_rn (0 : Int32) z_a3 c_a3 z_a4 c_a4 p2 (fun _ => 0) (fun _ => 0) (fun _ _ => 0)) (f4_rf (0 : Int32) z_a3 c_a3 z_a4 c_a4 p2 (fun _ => 0) (fun _ => 0) (fun _ _ => 0))) cO52 (f4_rn (1 : Int32) z_a3 c_a3 z_a4 c_a4 p2 (f4_o0 (0 : Int32) z_a3 c_a3 z_a4 c_a4 p2 (fun _ => 0) (fun _ => 0) (fun _ _ => 0)) (f4_rn (0 : Int32) z_a3 c_a3 z_a4 c_a4 p2 (fun _ => 0) (fun _ => 0) (fun _ _ => 0)) (f4_rf (0 : Int32) z_a3 c_a3 z_a4 c_a4 p2 (fun _ => 0) (fun _ => 0) (fun _ _ => 0))) (f4_rf (1 : Int32) z_a3 c_a3 z_a4 c_a4 p2 (f4_o0 (0 : Int32) z_a3 c_a3 z_a4 c_a4 p2 (fun _ => 0) (fun _ => 0) (fun _ _ => 0)) (f4_rn (0 : Int32) z_a3 c_a3 z_a4 c_a4 p2 (fun _ => 0) (fun _ => 0) (fun _ _ => 0)) (f4_rf (0 : Int32) z_a3 c_a3 z_a4 c_a4 p2 (fun _ => 0) (fun _ => 0) (fun _ _ => 0))) h0.size T52.heap n0 c53 c54 c55 c56 c57 c58 c59 c60 c63 g_b15 c62 Z0 (Ne.symm ne_a1_b15) (Ne.symm ne_a3_b15) (Ne.symm ne_a4_b15) (by decide) ⟨hz, hz4, hp⟩ hd (own_J2 hd) c61.1) hZ (hw _ (List.mem_of_getElem? (i := 28) rfl)) (hw _ (List.mem_of_getElem? (i := 4) rfl)) (by decide) (by decide)) q64a q64c (g := (mkF m 28 #[.val (.ref a1), .val (.int p2), .val (.ref a3), .val (.ref a4), .val (.int (2 : Int32))] [(.int (2 : Int32)), (.ref a1)])) rfl (by rw [hml]; rfl) (Steps.refl _) (argsL := [(.int (2 : Int32))]) (rest := []) (lenOf pd_4 rfl) rfl (by show 2 * 0 + _ ≤ _; exact Nat.le_of_eq rfl) (hb hby d1_28) (fun _ _ => ⟨rfl, rfl, (by decide : 8 + 1 ≤ _), (by decide : 16 + 4 ≤ _)⟩)
  dsimp only [Pt.U, Pt.locs, Pt.cells, Pt.slots] at X64 l64 y64 z64 st64 hQ64
  subst l64 y64 z64
  obtain ⟨cO64, rfl, N64q, K64, o64_0, oO64⟩ := hQ64
  have N64 := Fr.app N52 N64q
  have c65 : n0 ≤ T64.heap.size := Nat.le_trans c53 K64.1
  have c66 : Exa Z T64.heap a1 "com/example/podflow/podflow/simulation/Arrivals" := c54.keep K64
  have c67 : Fld Z T64.heap a1 "com/example/podflow/podflow/simulation/Arrivals" "destination" "[I" (.ref a3) := c55.keep K64 (ninS ne_a1_b5 (ninS ne_a1_b15 (ninS (Ne.symm ((c62.2.2.2.2.2 _ (List.mem_of_getElem? (i := 1) rfl)).2 _ (own_d4 (hd _)))) nin0)))
  have c68 : Fld Z T64.heap a1 "com/example/podflow/podflow/simulation/Arrivals" "arrival" "[J" (.ref a4) := c56.keep K64 (ninS ne_a1_b5 (ninS ne_a1_b15 (ninS (Ne.symm ((c62.2.2.2.2.2 _ (List.mem_of_getElem? (i := 1) rfl)).2 _ (own_d4 (hd _)))) nin0)))
  have c69 : Fld Z T64.heap a1 "com/example/podflow/podflow/simulation/Arrivals" "rows" "[[I" (.ref b5) := c57.keep K64 (ninS ne_a1_b5 (ninS ne_a1_b15 (ninS (Ne.symm ((c62.2.2.2.2.2 _ (List.mem_of_getElem? (i := 1) rfl)).2 _ (own_d4 (hd _)))) nin0)))
  have c70 : Fld Z T64.heap a1 "com/example/podflow/podflow/simulation/Arrivals" "sizes" "[I" (.ref b15) := c58.keep K64 (ninS ne_a1_b5 (ninS ne_a1_b15 (ninS (Ne.symm ((c62.2.2.2.2.2 _ (List.mem_of_getElem? (i := 1) rfl)).2 _ (own_d4 (hd _)))) nin0)))
  have c71 : IAr Z T64.heap a3 .int z_a3 c_a3 := c59.keep K64 (ninS ne_a3_b5 (ninS ne_a3_b15 (ninS (Ne.symm ((c62.2.2.2.2.2 _ (List.mem_of_getElem? (i := 2) rfl)).2 _ (own_d4 (hd _)))) nin0)))
  have c72 : LAr Z T64.heap a4  z_a4 c_a4 := c60.keep K64 (ninS ne_a4_b5 (ninS ne_a4_b15 (ninS (Ne.symm ((c62.2.2.2.2.2 _ (List.mem_of_getElem? (i := 3) rfl)).2 _ (own_d4 (hd _)))) nin0)))
  have c73 : Keep h0 T64.heap [a1] := c61.trans K64 (allS (Or.inr c62.2.2.1) (allS (Or.inr sz_b15) (allS (Or.inr (c62.2.2.2.1 ((c_a3 ((2 : Int32)).toNatClampNeg)).toNatClampNeg (own_d4 (hd _))).2.1) all0)))
  have c74 : OwnR Z T64.heap b5 cO64 (f4_rn (2 : Int32) z_a3 c_a3 z_a4 c_a4 p2 (f4_o0 (1 : Int32) z_a3 c_a3 z_a4 c_a4 p2 (f4_o0 (0 : Int32) z_a3 c_a3 z_a4 c_a4 p2 (fun _ => 0) (fun _ => 0) (fun _ _ => 0)) (f4_rn (0 : Int32) z_a3 c_a3 z_a4 c_a4 p2 (fun _ => 0) (fun _ => 0) (fun _ _ => 0)) (f4_rf (0 : Int32) z_a3 c_a3 z_a4 c_a4 p2 (fun _ => 0) (fun _ => 0) (fun _ _ => 0))) (f4_rn (1 : Int32) z_a3 c_a3 z_a4 c_a4 p2 (f4_o0 (0 : Int32) z_a3 c_a3 z_a4 c_a4 p2 (fun _ => 0) (fun _ => 0) (fun _ _ => 0)) (f4_rn (0 : Int32) z_a3 c_a3 z_a4 c_a4 p2 (fun _ => 0) (fun _ => 0) (fun _ _ => 0)) (f4_rf (0 : Int32) z_a3 c_a3 z_a4 c_a4 p2 (fun _ => 0) (fun _ => 0) (fun _ _ => 0))) (f4_rf (1 : Int32) z_a3 c_a3 z_a4 c_a4 p2 (f4_o0 (0 : Int32) z_a3 c_a3 z_a4 c_a4 p2 (fun _ => 0) (fun _ => 0) (fun _ _ => 0)) (f4_rn (0 : Int32) z_a3 c_a3 z_a4 c_a4 p2 (fun _ => 0) (fun _ => 0) (fun _ _ => 0)) (f4_rf (0 : Int32) z_a3 c_a3 z_a4 c_a4 p2 (fun _ => 0) (fun _ => 0) (fun _ _ => 0)))) (f4_rf (2 : Int32) z_a3 c_a3 z_a4 c_a4 p2 (f4_o0 (1 : Int32) z_a3 c_a3 z_a4 c_a4 p2 (f4_o0 (0 : Int32) z_a3 c_a3 z_a4 c_a4 p2 (fun _ => 0) (fun _ => 0) (fun _ _ => 0)) (f4_rn (0 : Int32) z_a3 c_a3 z_a4 c_a4 p2 (fun _ => 0) (fun _ => 0) (fun _ _ => 0)) (f4_rf (0 : Int32) z_a3 c_a3 z_a4 c_a4 p2 (fun _ => 0) (fun _ => 0) (fun _ _ => 0))) (f4_rn (1 : Int32) z_a3 c_a3 z_a4 c_a4 p2 (f4_o0 (0 : Int32) z_a3 c_a3 z_a4 c_a4 p2 (fun _ => 0) (fun _ => 0) (fun _ _ => 0)) (f4_rn (0 : Int32) z_a3 c_a3 z_a4 c_a4 p2 (fun _ => 0) (fun _ => 0) (fun _ _ => 0)) (f4_rf (0 : Int32) z_a3 c_a3 z_a4 c_a4 p2 (fun _ => 0) (fun _ => 0) (fun _ _ => 0))) (f4_rf (1 : Int32) z_a3 c_a3 z_a4 c_a4 p2 (f4_o0 (0 : Int32) z_a3 c_a3 z_a4 c_a4 p2 (fun _ => 0) (fun _ => 0) (fun _ _ => 0)) (f4_rn (0 : Int32) z_a3 c_a3 z_a4 c_a4 p2 (fun _ => 0) (fun _ => 0) (fun _ _ => 0)) (f4_rf (0 : Int32) z_a3 c_a3 z_a4 c_a4 p2 (fun _ => 0) (fun _ => 0) (fun _ _ => 0)))) [b15, a1, a3, a4] h0.size := oO64
  have c75 : IAr Z T64.heap b15 .int p2 (f4_o0 (2 : Int32) z_a3 c_a3 z_a4 c_a4 p2 (f4_o0 (1 : Int32) z_a3 c_a3 z_a4 c_a4 p2 (f4_o0 (0 : Int32) z_a3 c_a3 z_a4 c_a4 p2 (fun _ => 0) (fun _ => 0) (fun _ _ => 0)) (f4_rn (0 : Int32) z_a3 c_a3 z_a4 c_a4 p2 (fun _ => 0) (fun _ => 0) (fun _ _ => 0)) (f4_rf (0 : Int32) z_a3 c_a3 z_a4 c_a4 p2 (fun _ => 0) (fun _ => 0) (fun _ _ => 0))) (f4_rn (1 : Int32) z_a3 c_a3 z_a4 c_a4 p2 (f4_o0 (0 : Int32) z_a3 c_a3 z_a4 c_a4 p2 (fun _ => 0) (fun _ => 0) (fun _ _ => 0)) (f4_rn (0 : Int32) z_a3 c_a3 z_a4 c_a4 p2 (fun _ => 0) (fun _ => 0) (fun _ _ => 0)) (f4_rf (0 : Int32) z_a3 c_a3 z_a4 c_a4 p2 (fun _ => 0) (fun _ => 0) (fun _ _ => 0))) (f4_rf (1 : Int32) z_a3 c_a3 z_a4 c_a4 p2 (f4_o0 (0 : Int32) z_a3 c_a3 z_a4 c_a4 p2 (fun _ => 0) (fun _ => 0) (fun _ _ => 0)) (f4_rn (0 : Int32) z_a3 c_a3 z_a4 c_a4 p2 (fun _ => 0) (fun _ => 0) (fun _ _ => 0)) (f4_rf (0 : Int32) z_a3 c_a3 z_a4 c_a4 p2 (fun _ => 0) (fun _ => 0) (fun _ _ => 0)))) := o64_0
  have eq1 : (f1_x0n p2 z_a3 c_a3 z_a4 c_a4) = p2 := rfl
  have eq2 : (f1_x0c p2 z_a3 c_a3 z_a4 c_a4) = (f4_o0 (2 : Int32) z_a3 c_a3 z_a4 c_a4 p2 (f4_o0 (1 : Int32) z_a3 c_a3 z_a4 c_a4 p2 (f4_o0 (0 : Int32) z_a3 c_a3 z_a4 c_a4 p2 (fun _ => 0) (fun _ => 0) (fun _ _ => 0)) (f4_rn (0 : Int32) z_a3 c_a3 z_a4 c_a4 p2 (fun _ => 0) (fun _ => 0) (fun _ _ => 0)) (f4_rf (0 : Int32) z_a3 c_a3 z_a4 c_a4 p2 (fun _ => 0) (fun _ => 0) (fun _ _ => 0))) (f4_rn (1 : Int32) z_a3 c_a3 z_a4 c_a4 p2 (f4_o0 (0 : Int32) z_a3 c_a3 z_a4 c_a4 p2 (fun _ => 0) (fun _ => 0) (fun _ _ => 0)) (f4_rn (0 : Int32) z_a3 c_a3 z_a4 c_a4 p2 (fun _ => 0) (fun _ => 0) (fun _ _ => 0)) (f4_rf (0 : Int32) z_a3 c_a3 z_a4 c_a4 p2 (fun _ => 0) (fun _ => 0) (fun _ _ => 0))) (f4_rf (1 : Int32) z_a3 c_a3 z_a4 c_a4 p2 (f4_o0 (0 : Int32) z_a3 c_a3 z_a4 c_a4 p2 (fun _ => 0) (fun _ => 0) (fun _ _ => 0)) (f4_rn (0 : Int32) z_a3 c_a3 z_a4 c_a4 p2 (fun _ => 0) (fun _ => 0) (fun _ _ => 0)) (f4_rf (0 : Int32) z_a3 c_a3 z_a4 c_a4 p2 (fun _ => 0) (fun _ => 0) (fun _ _ => 0)))) := rfl
  have eq3 : (f1_rn p2 z_a3 c_a3 z_a4 c_a4) = (f4_rn (2 : Int32) z_a3 c_a3 z_a4 c_a4 p2 (f4_o0 (1 : Int32) z_a3 c_a3 z_a4 c_a4 p2 (f4_o0 (0 : Int32) z_a3 c_a3 z_a4 c_a4 p2 (fun _ => 0) (fun _ => 0) (fun _ _ => 0)) (f4_rn (0 : Int32) z_a3 c_a3 z_a4 c_a4 p2 (fun _ => 0) (fun _ => 0) (fun _ _ => 0)) (f4_rf (0 : Int32) z_a3 c_a3 z_a4 c_a4 p2 (fun _ => 0) (fun _ => 0) (fun _ _ => 0))) (f4_rn (1 : Int32) z_a3 c_a3 z_a4 c_a4 p2 (f4_o0 (0 : Int32) z_a3 c_a3 z_a4 c_a4 p2 (fun _ => 0) (fun _ => 0) (fun _ _ => 0)) (f4_rn (0 : Int32) z_a3 c_a3 z_a4 c_a4 p2 (fun _ => 0) (fun _ => 0) (fun _ _ => 0)) (f4_rf (0 : Int32) z_a3 c_a3 z_a4 c_a4 p2 (fun _ => 0) (fun _ => 0) (fun _ _ => 0))) (f4_rf (1 : Int32) z_a3 c_a3 z_a4 c_a4 p2 (f4_o0 (0 : Int32) z_a3 c_a3 z_a4 c_a4 p2 (fun _ => 0) (fun _ => 0) (fun _ _ => 0)) (f4_rn (0 : Int32) z_a3 c_a3 z_a4 c_a4 p2 (fun _ => 0) (fun _ => 0) (fun _ _ => 0)) (f4_rf (0 : Int32) z_a3 c_a3 z_a4 c_a4 p2 (fun _ => 0) (fun _ => 0) (fun _ _ => 0)))) := rfl
  have eq4 : (f1_rf p2 z_a3 c_a3 z_a4 c_a4) = (f4_rf (2 : Int32) z_a3 c_a3 z_a4 c_a4 p2 (f4_o0 (1 : Int32) z_a3 c_a3 z_a4 c_a4 p2 (f4_o0 (0 : Int32) z_a3 c_a3 z_a4 c_a4 p2 (fun _ => 0) (fun _ => 0) (fun _ _ => 0)) (f4_rn (0 : Int32) z_a3 c_a3 z_a4 c_a4 p2 (fun _ => 0) (fun _ => 0) (fun _ _ => 0)) (f4_rf (0 : Int32) z_a3 c_a3 z_a4 c_a4 p2 (fun _ => 0) (fun _ => 0) (fun _ _ => 0))) (f4_rn (1 : Int32) z_a3 c_a3 z_a4 c_a4 p2 (f4_o0 (0 : Int32) z_a3 c_a3 z_a4 c_a4 p2 (fun _ => 0) (fun _ => 0) (fun _ _ => 0)) (f4_rn (0 : Int32) z_a3 c_a3 z_a4 c_a4 p2 (fun _ => 0) (fun _ => 0) (fun _ _ => 0)) (f4_rf (0 : Int32) z_a3 c_a3 z_a4 c_a4 p2 (fun _ => 0) (fun _ => 0) (fun _ _ => 0))) (f4_rf (1 : Int32) z_a3 c_a3 z_a4 c_a4 p2 (f4_o0 (0 : Int32) z_a3 c_a3 z_a4 c_a4 p2 (fun _ => 0) (fun _ => 0) (fun _ _ => 0)) (f4_rn (0 : Int32) z_a3 c_a3 z_a4 c_a4 p2 (fun _ => 0) (fun _ => 0) (fun _ _ => 0)) (f4_rf (0 : Int32) z_a3 c_a3 z_a4 c_a4 p2 (fun _ => 0) (fun _ => 0) (fun _ _ => 0)))) := rfl
  obtain ⟨fs, hr, hrun, hended, hW, hsame⟩ := X64.leave (v := none) (fun _ => rfl)
  refine ⟨_, _, pre0 _ ?_, hrun, hended, _, _, rfl, ?_, ⟨_, rfl⟩, hW, hsame.mono (by decide) (by decide)⟩
  · show Steps p.tables e below (s₁.setTop (mkF m 0 #[.val (.ref a1), .val (.int p2), .val (.ref a3), .val (.ref a4), .unset] [])) _
    refine XS.aloadN X0.here hx rfl (hb hby d1_0) rfl rfl ?_
    show Steps p.tables e below (s₁.setTop (mkF m 1 #[.val (.ref a1), .val (.int p2), .val (.ref a3), .val (.ref a4), .unset] [(.ref a1)])) _
    refine XS.aloadN X0.here hx rfl (hb hby d1_1) rfl rfl ?_
    show Steps p.tables e below (s₁.setTop (mkF m 2 #[.val (.ref a1), .val (.int p2), .val (.ref a3), .val (.ref a4), .unset] [(.ref a3), (.ref a1)])) _
    refine XS.aloadN X0.here hx rfl (hb hby d1_2) rfl rfl ?_
    show Steps p.tables e below (s₁.setTop (mkF m 3 #[.val (.ref a1), .val (.int p2), .val (.ref a3), .val (.ref a4), .unset] [(.ref a4), (.ref a3), (.ref a1)])) _
    refine XS.iloadN X0.here hx rfl (hb hby d1_3) rfl ?_
    show Steps p.tables e below (s₁.setTop (mkF m 4 #[.val (.ref a1), .val (.int p2), .val (.ref a3), .val (.ref a4), .unset] [(.int p2), (.ref a4), (.ref a3), (.ref a1)])) _
    refine XS.iconst X0.here hx rfl (hb hby d1_4) ?_
    show Steps p.tables e below (s₁.setTop (mkF m 5 #[.val (.ref a1), .val (.int p2), .val (.ref a3), .val (.ref a4), .unset] [(.int (0 : Int32)), (.int p2), (.ref a4), (.ref a3), (.ref a1)])) _
    refine st5 _ ?_
    show Steps p.tables e below (T5.setTop (mkF m 9 #[.val (.ref a1), .val (.int p2), .val (.ref a3), .val (.ref a4), .unset] [(.ref b5), (.ref a4), (.ref a3), (.ref a1)])) _
    refine XS.iloadN X5.here hx rfl (hb hby d1_9) rfl ?_
    show Steps p.tables e below (T5.setTop (mkF m 10 #[.val (.ref a1), .val (.int p2), .val (.ref a3), .val (.ref a4), .unset] [(.int p2), (.ref b5), (.ref a4), (.ref a3), (.ref a1)])) _
    refine st15 _ ?_
    show Steps p.tables e below (T15.setTop (mkF m 12 #[.val (.ref a1), .val (.int p2), .val (.ref a3), .val (.ref a4), .unset] [(.ref b15), (.ref b5), (.ref a4), (.ref a3), (.ref a1)])) _
    refine st28.trans ?_
    show Steps p.tables e below (T28.setTop (mkF m 15 #[.val (.ref a1), .val (.int p2), .val (.ref a3), .val (.ref a4), .unset] [])) _
    refine XS.iconst X28.here hx rfl (hb hby d1_15) ?_
    show Steps p.tables e below (T28.setTop (mkF m 16 #[.val (.ref a1), .val (.int p2), .val (.ref a3), .val (.ref a4), .unset] [(.int (0 : Int32))])) _
    refine XS.istore X28.here hx rfl (hb hby d1_16) rfl (l' := #[.val (.ref a1), .val (.int p2), .val (.ref a3), .val (.ref a4), .val (.int (0 : Int32))]) rfl ?_
    show Steps p.tables e below (T28.setTop (mkF m 18 #[.val (.ref a1), .val (.int p2), .val (.ref a3), .val (.ref a4), .val (.int (0 : Int32))] [])) _
    refine XS.iload X28.here hx rfl (hb hby d1_18) rfl ?_
    show Steps p.tables e below (T28.setTop (mkF m 20 #[.val (.ref a1), .val (.int p2), .val (.ref a3), .val (.ref a4), .val (.int (0 : Int32))] [(.int (0 : Int32))])) _
    refine XS.aloadN X28.here hx rfl (hb hby d1_20) rfl rfl ?_
    show Steps p.tables e below (T28.setTop (mkF m 21 #[.val (.ref a1), .val (.int p2), .val (.ref a3), .val (.ref a4), .val (.int (0 : Int32))] [(.ref a3), (.int (0 : Int32))])) _
    refine alen X28 hx hZ rfl c35 (g := (mkF m 21 #[.val (.ref a1), .val (.int p2), .val (.ref a3), .val (.ref a4), .val (.int (0 : Int32))] [(.ref a3), (.int (0 : Int32))])) rfl rfl (hb hby d1_21) ?_
    show Steps p.tables e below (T28.setTop (mkF m 22 #[.val (.ref a1), .val (.int p2), .val (.ref a3), .val (.ref a4), .val (.int (0 : Int32))] [(.int z_a3), (.int (0 : Int32))])) _
    refine XS.icmpNo X28.here hx rfl (hb hby d1_22) rfl (tlt (by rw [hz]; decide : (0 : Int32) < z_a3)).2.1 ?_
    show Steps p.tables e below (T28.setTop (mkF m 25 #[.val (.ref a1), .val (.int p2), .val (.ref a3), .val (.ref a4), .val (.int (0 : Int32))] [])) _
    refine XS.aloadN X28.here hx rfl (hb hby d1_25) rfl rfl ?_
    show Steps p.tables e below (T28.setTop (mkF m 26 #[.val (.ref a1), .val (.int p2), .val (.ref a3), .val (.ref a4), .val (.int (0 : Int32))] [(.ref a1)])) _
    refine XS.iload X28.here hx rfl (hb hby d1_26) rfl ?_
    show Steps p.tables e below (T28.setTop (mkF m 28 #[.val (.ref a1), .val (.int p2), .val (.ref a3), .val (.ref a4), .val (.int (0 : Int32))] [(.int (0 : Int32)), (.ref a1)])) _
    refine st40.trans ?_
    show Steps p.tables e below (T40.setTop (mkF m 31 #[.val (.ref a1), .val (.int p2), .val (.ref a3), .val (.ref a4), .val (.int (0 : Int32))] [])) _
    refine XS.iinc X40.here hx rfl (hb hby d1_31) rfl (l' := #[.val (.ref a1), .val (.int p2), .val (.ref a3), .val (.ref a4), .val (.int (1 : Int32))]) rfl ?_
    show Steps p.tables e below (T40.setTop (mkF m 34 #[.val (.ref a1), .val (.int p2), .val (.ref a3), .val (.ref a4), .val (.int (1 : Int32))] [])) _
    refine XS.goto X40.here hx rfl (pc0 := 34) (pc' := 18) rfl (hb hby d1_34) (by decide) (by decide) ?_
    show Steps p.tables e below (T40.setTop (mkF m 18 #[.val (.ref a1), .val (.int p2), .val (.ref a3), .val (.ref a4), .val (.int (1 : Int32))] [])) _
    refine XS.iload X40.here hx rfl (hb hby d1_18) rfl ?_
    show Steps p.tables e below (T40.setTop (mkF m 20 #[.val (.ref a1), .val (.int p2), .val (.ref a3), .val (.ref a4), .val (.int (1 : Int32))] [(.int (1 : Int32))])) _
    refine XS.aloadN X40.here hx rfl (hb hby d1_20) rfl rfl ?_
    show Steps p.tables e below (T40.setTop (mkF m 21 #[.val (.ref a1), .val (.int p2), .val (.ref a3), .val (.ref a4), .val (.int (1 : Int32))] [(.ref a3), (.int (1 : Int32))])) _
    refine alen X40 hx hZ rfl c47 (g := (mkF m 21 #[.val (.ref a1), .val (.int p2), .val (.ref a3), .val (.ref a4), .val (.int (1 : Int32))] [(.ref a3), (.int (1 : Int32))])) rfl rfl (hb hby d1_21) ?_
    show Steps p.tables e below (T40.setTop (mkF m 22 #[.val (.ref a1), .val (.int p2), .val (.ref a3), .val (.ref a4), .val (.int (1 : Int32))] [(.int z_a3), (.int (1 : Int32))])) _
    refine XS.icmpNo X40.here hx rfl (hb hby d1_22) rfl (tlt (by rw [hz]; decide : (1 : Int32) < z_a3)).2.1 ?_
    show Steps p.tables e below (T40.setTop (mkF m 25 #[.val (.ref a1), .val (.int p2), .val (.ref a3), .val (.ref a4), .val (.int (1 : Int32))] [])) _
    refine XS.aloadN X40.here hx rfl (hb hby d1_25) rfl rfl ?_
    show Steps p.tables e below (T40.setTop (mkF m 26 #[.val (.ref a1), .val (.int p2), .val (.ref a3), .val (.ref a4), .val (.int (1 : Int32))] [(.ref a1)])) _
    refine XS.iload X40.here hx rfl (hb hby d1_26) rfl ?_
    show Steps p.tables e below (T40.setTop (mkF m 28 #[.val (.ref a1), .val (.int p2), .val (.ref a3), .val (.ref a4), .val (.int (1 : Int32))] [(.int (1 : Int32)), (.ref a1)])) _
    refine st52.trans ?_
    show Steps p.tables e below (T52.setTop (mkF m 31 #[.val (.ref a1), .val (.int p2), .val (.ref a3), .val (.ref a4), .val (.int (1 : Int32))] [])) _
    refine XS.iinc X52.here hx rfl (hb hby d1_31) rfl (l' := #[.val (.ref a1), .val (.int p2), .val (.ref a3), .val (.ref a4), .val (.int (2 : Int32))]) rfl ?_
    show Steps p.tables e below (T52.setTop (mkF m 34 #[.val (.ref a1), .val (.int p2), .val (.ref a3), .val (.ref a4), .val (.int (2 : Int32))] [])) _
    refine XS.goto X52.here hx rfl (pc0 := 34) (pc' := 18) rfl (hb hby d1_34) (by decide) (by decide) ?_
    show Steps p.tables e below (T52.setTop (mkF m 18 #[.val (.ref a1), .val (.int p2), .val (.ref a3), .val (.ref a4), .val (.int (2 : Int32))] [])) _
    refine XS.iload X52.here hx rfl (hb hby d1_18) rfl ?_
    show Steps p.tables e below (T52.setTop (mkF m 20 #[.val (.ref a1), .val (.int p2), .val (.ref a3), .val (.ref a4), .val (.int (2 : Int32))] [(.int (2 : Int32))])) _
    refine XS.aloadN X52.here hx rfl (hb hby d1_20) rfl rfl ?_
    show Steps p.tables e below (T52.setTop (mkF m 21 #[.val (.ref a1), .val (.int p2), .val (.ref a3), .val (.ref a4), .val (.int (2 : Int32))] [(.ref a3), (.int (2 : Int32))])) _
    refine alen X52 hx hZ rfl c59 (g := (mkF m 21 #[.val (.ref a1), .val (.int p2), .val (.ref a3), .val (.ref a4), .val (.int (2 : Int32))] [(.ref a3), (.int (2 : Int32))])) rfl rfl (hb hby d1_21) ?_
    show Steps p.tables e below (T52.setTop (mkF m 22 #[.val (.ref a1), .val (.int p2), .val (.ref a3), .val (.ref a4), .val (.int (2 : Int32))] [(.int z_a3), (.int (2 : Int32))])) _
    refine XS.icmpNo X52.here hx rfl (hb hby d1_22) rfl (tlt (by rw [hz]; decide : (2 : Int32) < z_a3)).2.1 ?_
    show Steps p.tables e below (T52.setTop (mkF m 25 #[.val (.ref a1), .val (.int p2), .val (.ref a3), .val (.ref a4), .val (.int (2 : Int32))] [])) _
    refine XS.aloadN X52.here hx rfl (hb hby d1_25) rfl rfl ?_
    show Steps p.tables e below (T52.setTop (mkF m 26 #[.val (.ref a1), .val (.int p2), .val (.ref a3), .val (.ref a4), .val (.int (2 : Int32))] [(.ref a1)])) _
    refine XS.iload X52.here hx rfl (hb hby d1_26) rfl ?_
    show Steps p.tables e below (T52.setTop (mkF m 28 #[.val (.ref a1), .val (.int p2), .val (.ref a3), .val (.ref a4), .val (.int (2 : Int32))] [(.int (2 : Int32)), (.ref a1)])) _
    refine st64.trans ?_
    show Steps p.tables e below (T64.setTop (mkF m 31 #[.val (.ref a1), .val (.int p2), .val (.ref a3), .val (.ref a4), .val (.int (2 : Int32))] [])) _
    refine XS.iinc X64.here hx rfl (hb hby d1_31) rfl (l' := #[.val (.ref a1), .val (.int p2), .val (.ref a3), .val (.ref a4), .val (.int (3 : Int32))]) rfl ?_
    show Steps p.tables e below (T64.setTop (mkF m 34 #[.val (.ref a1), .val (.int p2), .val (.ref a3), .val (.ref a4), .val (.int (3 : Int32))] [])) _
    refine XS.goto X64.here hx rfl (pc0 := 34) (pc' := 18) rfl (hb hby d1_34) (by decide) (by decide) ?_
    show Steps p.tables e below (T64.setTop (mkF m 18 #[.val (.ref a1), .val (.int p2), .val (.ref a3), .val (.ref a4), .val (.int (3 : Int32))] [])) _
    refine XS.iload X64.here hx rfl (hb hby d1_18) rfl ?_
    show Steps p.tables e below (T64.setTop (mkF m 20 #[.val (.ref a1), .val (.int p2), .val (.ref a3), .val (.ref a4), .val (.int (3 : Int32))] [(.int (3 : Int32))])) _
    refine XS.aloadN X64.here hx rfl (hb hby d1_20) rfl rfl ?_
    show Steps p.tables e below (T64.setTop (mkF m 21 #[.val (.ref a1), .val (.int p2), .val (.ref a3), .val (.ref a4), .val (.int (3 : Int32))] [(.ref a3), (.int (3 : Int32))])) _
    refine alen X64 hx hZ rfl c71 (g := (mkF m 21 #[.val (.ref a1), .val (.int p2), .val (.ref a3), .val (.ref a4), .val (.int (3 : Int32))] [(.ref a3), (.int (3 : Int32))])) rfl rfl (hb hby d1_21) ?_
    show Steps p.tables e below (T64.setTop (mkF m 22 #[.val (.ref a1), .val (.int p2), .val (.ref a3), .val (.ref a4), .val (.int (3 : Int32))] [(.int z_a3), (.int (3 : Int32))])) _
    refine XS.icmpYes X64.here hx rfl (pc0 := 22) (pc' := 37) rfl (hb hby d1_22) rfl (flt (by rw [hz]; decide : ¬ ((3 : Int32) < z_a3))).2.1 (by decide) (by decide) ?_
    show Steps p.tables e below (T64.setTop (mkF m 37 #[.val (.ref a1), .val (.int p2), .val (.ref a3), .val (.ref a4), .val (.int (3 : Int32))] [])) _
    exact X64.returnOut hx Bd.returns (hb hby d1_37) hr
  · show Q1 Z a1 p2 a3 a4 z_a3 c_a3 z_a4 c_a4 h0 n0 _ T64.heap _
    exact ⟨cO64, b15, b5, rfl, N64, c73, c67, c68, (by rw [eq3, eq4]; exact c74), sz_b15, (by rw [eq1, eq2]; exact c75), c70, c69⟩
theorem d9_0 : decode prog_55_method_4_code 0 = .ok (.aload_n 0, 1) := by decide +kernel
theorem d9_1 : decode prog_55_method_4_code 1 = .ok (.getfield 21, 3) := by decide +kernel
theorem d9_4 : decode prog_55_method_4_code 4 = .ok (.iload_n 1, 1) := by decide +kernel
theorem d9_5 : decode prog_55_method_4_code 5 = .ok (.iaload, 1) := by decide +kernel
theorem d9_6 : decode prog_55_method_4_code 6 = .ok (.ifCond .ne 7, 3) := by decide +kernel
theorem d9_9 : decode prog_55_method_4_code 9 = .ok (.iconst (-1), 1) := by decide +kernel
theorem d9_10 : decode prog_55_method_4_code 10 = .ok (.goto 11, 3) := by decide +kernel
theorem d9_13 : decode prog_55_method_4_code 13 = .ok (.aload_n 0, 1) := by decide +kernel
theorem d9_14 : decode prog_55_method_4_code 14 = .ok (.getfield 17, 3) := by decide +kernel
theorem d9_17 : decode prog_55_method_4_code 17 = .ok (.iload_n 1, 1) := by decide +kernel
theorem d9_18 : decode prog_55_method_4_code 18 = .ok (.aaload, 1) := by decide +kernel
theorem d9_19 : decode prog_55_method_4_code 19 = .ok (.iconst 0, 1) := by decide +kernel
theorem d9_20 : decode prog_55_method_4_code 20 = .ok (.iaload, 1) := by decide +kernel
theorem d9_21 : decode prog_55_method_4_code 21 = .ok (.ireturn, 1) := by decide +kernel
theorem ef_9 (m : MethodId) (x0 : Addr) (x1 : Int32) : entryFrame m #[(.ref x0), (.int x1)] 2 = mkF m 0 #[.val (.ref x0), .val (.int x1)] [] := by first | (simp [entryFrame, mkF, argsToLocals, Value.category]; done) | rfl
def f9 (p2 : Int32) (z_w_si : Int32) (c_w_si : Nat → Int32) (n_w_ro : Nat → Int32) (f_w_ro : Nat → Nat → Int32) : Int32 := (if (c_w_si (p2).toNatClampNeg) = (0 : Int32) then (-1 : Int32) else ((f_w_ro (p2).toNatClampNeg) ((0 : Int32)).toNatClampNeg))
def Q9 (Z : State) (a1 : Addr) (p2 : Int32) (w_de : Addr) (w_ar : Addr) (w_ro : Addr) (w_si : Addr) (z_w_si : Int32) (c_w_si : Nat → Int32) (c_w_ro : Nat → Addr) (n_w_ro : Nat → Int32) (f_w_ro : Nat → Nat → Int32) (m_w_ro : Nat) (h0 : Heap) (n0 : Nat) (v : Option Value) (h : Heap) (L : List Loc) : Prop := v = some (.int (f9 p2 z_w_si c_w_si n_w_ro f_w_ro)) ∧ Fr n0 L ∧ h = h0
set_option maxRecDepth 65536 in
set_option maxHeartbeats 40000000 in
theorem rm9 (l : Launch) (Z : State) (a0 : Array Value) (hw : ∀ d ∈ tables_1, d.before a0 Z = true) (ws : List Jvm.Cond) (a1 : Addr) (p2 : Int32) (w_de : Addr) (w_ar : Addr) (w_ro : Addr) (w_si : Addr) (z_w_si : Int32) (c_w_si : Nat → Int32) (c_w_ro : Nat → Addr) (n_w_ro : Nat → Int32) (f_w_ro : Nat → Nat → Int32) (m_w_ro : Nat) (h0 : Heap) (n0 : Nat) (Z0 : n0 ≤ h0.size) (F_destination_a1 : Fld Z h0 a1 "com/example/podflow/podflow/simulation/Arrivals" "destination" "[I" (.ref w_de)) (F_arrival_a1 : Fld Z h0 a1 "com/example/podflow/podflow/simulation/Arrivals" "arrival" "[J" (.ref w_ar)) (F_rows_a1 : Fld Z h0 a1 "com/example/podflow/podflow/simulation/Arrivals" "rows" "[[I" (.ref w_ro)) (F_sizes_a1 : Fld Z h0 a1 "com/example/podflow/podflow/simulation/Arrivals" "sizes" "[I" (.ref w_si)) (V_w_si : IAr Z h0 w_si .int z_w_si c_w_si) (O_w_ro : OwnR Z h0 w_ro c_w_ro n_w_ro f_w_ro [w_si, a1, w_de, w_ar] m_w_ro) (hm_w_ro : n0 ≤ m_w_ro) (hp : 0 ≤ p2.toInt ∧ p2.toInt < 4) (hl : z_w_si = 4) (hJ : own_J c_w_si n_w_ro f_w_ro 3) :
    MetFree l (⟨"com/example/podflow/podflow/simulation/Arrivals", "first", "(I)I"⟩ : MethodName) (head1 (Jvm.Cond.code (⟨"com/example/podflow/podflow/simulation/Arrivals", "first", "(I)I"⟩ : MethodName) prog_55_method_4_code 2 (some .int) :: ws) ({ frames := 0, cells := 0, slots := 0, locals := 0 } : Room)) (fun a U => a = #[(.ref a1), (.int p2)] ∧ Z.Warmed39 U.vm ∧ U.heap = h0) (fun _ _ _ _ _ => True) (fun _ U o U' => ∃ v L, o = .returned v ∧ Q9 Z a1 p2 w_de w_ar w_ro w_si z_w_si c_w_si c_w_ro n_w_ro f_w_ro m_w_ro h0 n0 v U'.heap L ∧ FrameEnd U o U' L ({ frames := 0, cells := 0, slots := 0, locals := 0 } : Room).cells ({ frames := 0, cells := 0, slots := 0, locals := 0 } : Room).slots) := by
  refine MetFree.of_bodySF (plainFor_of_name pn_1) hisR ?_
  intro p e s m args below meth c s₁ Bd hml0 hP hK
  obtain ⟨rfl, hZ, hh⟩ := hP
  have hx := Bd.exec
  have hby := Bd.bytes
  have hml : c.maxLocals = 2 := hml0
  have hown : s.vm.findClass "com/example/podflow/podflow/simulation/Arrivals" = some m.cls := findClass_of_methodNamed Bd.named
  have hnm := (name_of_methodNamed Bd.named Bd.method).1
  have X0 : Stand p l e ({ frames := 0, cells := 0, slots := 0, locals := 0 } : Room) s m #[(.ref a1), (.int p2)] below meth c s₁ [] 0 0 := Stand.of_body Bd
  have e0 : s₁.heap = h0 := by rw [← hh, Bd.state]; rfl
  have N0 := Fr.nil n0
  have pre0 : ∀ t, Steps p.tables e below (s₁.setTop (mkF m 0 #[.val (.ref a1), .val (.int p2)] [])) t → Steps p.tables e below (s₁.setTop (entryFrame m #[(.ref a1), (.int p2)] 2)) t := fun t k => castTop (ef_9 m a1 p2) k
  obtain ⟨T3, X3, e3, st3⟩ := getF X0 hx hZ hown (host := "") (Or.inl (hw _ (List.mem_of_getElem? (i := 22) rfl))) Via.refl e0 F_sizes_a1 (g := (mkF m 1 #[.val (.ref a1), .val (.int p2)] [(.ref a1)])) rfl rfl (hb hby d9_1)
  have pre1 : ∀ t, Steps p.tables e below (T3.setTop (mkF m 6 #[.val (.ref a1), .val (.int p2)] [(.int (c_w_si (p2).toNatClampNeg))])) t → Steps p.tables e below (s₁.setTop (entryFrame m #[(.ref a1), (.int p2)] 2)) t := by
    intro t k
    refine pre0 t ?_
    show Steps p.tables e below (s₁.setTop (mkF m 0 #[.val (.ref a1), .val (.int p2)] [])) _
    refine XS.aloadN X0.here hx rfl (hb hby d9_0) rfl rfl ?_
    show Steps p.tables e below (s₁.setTop (mkF m 1 #[.val (.ref a1), .val (.int p2)] [(.ref a1)])) _
    refine st3 _ ?_
    show Steps p.tables e below (T3.setTop (mkF m 4 #[.val (.ref a1), .val (.int p2)] [(.ref w_si)])) _
    refine XS.iloadN X3.here hx rfl (hb hby d9_4) rfl ?_
    show Steps p.tables e below (T3.setTop (mkF m 5 #[.val (.ref a1), .val (.int p2)] [(.int p2), (.ref w_si)])) _
    refine ldI X3 hx hZ e3 V_w_si (j := p2) (own_i4 hp hl) (g := (mkF m 5 #[.val (.ref a1), .val (.int p2)] [(.int p2), (.ref w_si)])) rfl rfl (hb hby d9_5) ?_
    exact k
  by_cases hc6 : (c_w_si (p2).toNatClampNeg) = (0 : Int32)
  · have eq2 : (f9 p2 z_w_si c_w_si n_w_ro f_w_ro) = (-1 : Int32) := by unfold f9; simp only [if_pos hc6]
    obtain ⟨fs, hr, hrun, hended, hW, hsame⟩ := X3.leave (v := some (.int (-1 : Int32))) (fun h => by rw [Bd.returns] at h; cases h)
    refine ⟨_, _, pre1 _ ?_, hrun, hended, _, _, rfl, ?_, ⟨_, rfl⟩, hW, hsame.mono (by decide) (by decide)⟩
    · show Steps p.tables e below (T3.setTop (mkF m 6 #[.val (.ref a1), .val (.int p2)] [(.int (c_w_si (p2).toNatClampNeg))])) _
      refine XS.ifNo X3.here hx rfl (hb hby d9_6) rfl ((if0 _ _).trans (teq hc6).2) ?_
      show Steps p.tables e below (T3.setTop (mkF m 9 #[.val (.ref a1), .val (.int p2)] [])) _
      refine XS.iconst X3.here hx rfl (hb hby d9_9) ?_
      show Steps p.tables e below (T3.setTop (mkF m 10 #[.val (.ref a1), .val (.int p2)] [(.int (-1 : Int32))])) _
      refine XS.goto X3.here hx rfl (pc0 := 10) (pc' := 21) rfl (hb hby d9_10) (by decide) (by decide) ?_
      show Steps p.tables e below (T3.setTop (mkF m 21 #[.val (.ref a1), .val (.int p2)] [(.int (-1 : Int32))])) _
      exact retI X3 hx Bd.returns (hb hby d9_21) hr
    · show Q9 Z a1 p2 w_de w_ar w_ro w_si z_w_si c_w_si c_w_ro n_w_ro f_w_ro m_w_ro h0 n0 _ T3.heap _
      rw [e3]
      exact ⟨by rw [eq2], N0, rfl⟩
  · obtain ⟨T4, X4, e4, st4⟩ := getF X3 hx hZ hown (host := "") (Or.inl (hw _ (List.mem_of_getElem? (i := 20) rfl))) Via.refl e3 F_rows_a1 (g := (mkF m 14 #[.val (.ref a1), .val (.int p2)] [(.ref a1)])) rfl rfl (hb hby d9_14)
    have eq3 : (f9 p2 z_w_si c_w_si n_w_ro f_w_ro) = ((f_w_ro (p2).toNatClampNeg) ((0 : Int32)).toNatClampNeg) := by unfold f9; simp only [if_neg hc6]
    obtain ⟨fs, hr, hrun, hended, hW, hsame⟩ := X4.leave (v := some (.int ((f_w_ro (p2).toNatClampNeg) ((0 : Int32)).toNatClampNeg))) (fun h => by rw [Bd.returns] at h; cases h)
    refine ⟨_, _, pre1 _ ?_, hrun, hended, _, _, rfl, ?_, ⟨_, rfl⟩, hW, hsame.mono (by decide) (by decide)⟩
    · show Steps p.tables e below (T3.setTop (mkF m 6 #[.val (.ref a1), .val (.int p2)] [(.int (c_w_si (p2).toNatClampNeg))])) _
      refine XS.ifYes X3.here hx rfl (pc0 := 6) (pc' := 13) rfl (hb hby d9_6) rfl ((if0 _ _).trans (feq hc6).2) (by decide) (by decide) ?_
      show Steps p.tables e below (T3.setTop (mkF m 13 #[.val (.ref a1), .val (.int p2)] [])) _
      refine XS.aloadN X3.here hx rfl (hb hby d9_13) rfl rfl ?_
      show Steps p.tables e below (T3.setTop (mkF m 14 #[.val (.ref a1), .val (.int p2)] [(.ref a1)])) _
      refine st4 _ ?_
      show Steps p.tables e below (T4.setTop (mkF m 17 #[.val (.ref a1), .val (.int p2)] [(.ref w_ro)])) _
      refine XS.iloadN X4.here hx rfl (hb hby d9_17) rfl ?_
      show Steps p.tables e below (T4.setTop (mkF m 18 #[.val (.ref a1), .val (.int p2)] [(.int p2), (.ref w_ro)])) _
      refine ldR X4 hx hZ e4 O_w_ro.1 rfl (j := p2) (own_i4 hp rfl) (g := (mkF m 18 #[.val (.ref a1), .val (.int p2)] [(.int p2), (.ref w_ro)])) rfl rfl (hb hby d9_18) ?_
      show Steps p.tables e below (T4.setTop (mkF m 19 #[.val (.ref a1), .val (.int p2)] [(.ref (c_w_ro (p2).toNatClampNeg))])) _
      refine XS.iconst X4.here hx rfl (hb hby d9_19) ?_
      show Steps p.tables e below (T4.setTop (mkF m 20 #[.val (.ref a1), .val (.int p2)] [(.int (0 : Int32)), (.ref (c_w_ro (p2).toNatClampNeg))])) _
      refine ldI X4 hx hZ e4 (O_w_ro.2.2.2.1 (p2).toNatClampNeg (own_d4 hp)).1 (j := (0 : Int32)) (own_f0 hJ hp hc6) (g := (mkF m 20 #[.val (.ref a1), .val (.int p2)] [(.int (0 : Int32)), (.ref (c_w_ro (p2).toNatClampNeg))])) rfl rfl (hb hby d9_20) ?_
      show Steps p.tables e below (T4.setTop (mkF m 21 #[.val (.ref a1), .val (.int p2)] [(.int ((f_w_ro (p2).toNatClampNeg) ((0 : Int32)).toNatClampNeg))])) _
      exact retI X4 hx Bd.returns (hb hby d9_21) hr
    · show Q9 Z a1 p2 w_de w_ar w_ro w_si z_w_si c_w_si c_w_ro n_w_ro f_w_ro m_w_ro h0 n0 _ T4.heap _
      rw [e4]
      exact ⟨by rw [eq3], N0, rfl⟩
theorem pn_2 : plainName "com/example/podflow/podflow/simulation/ArrivalsFirstPinLaw" = true := by first | (simp [plainName, overriddenIn]; done) | decide +kernel
theorem d10_0 : decode method_2_code 0 = .ok (.iconst (-1), 1) := by decide +kernel
theorem d10_1 : decode method_2_code 1 = .ok (.istore 10, 2) := by decide +kernel
theorem d10_3 : decode method_2_code 3 = .ok (.lconst 0, 1) := by decide +kernel
theorem d10_4 : decode method_2_code 4 = .ok (.lstore 11, 2) := by decide +kernel
theorem d10_6 : decode method_2_code 6 = .ok (.iload_n 1, 1) := by decide +kernel
theorem d10_7 : decode method_2_code 7 = .ok (.iload_n 0, 1) := by decide +kernel
theorem d10_8 : decode method_2_code 8 = .ok (.if_icmp .ne 10, 3) := by decide +kernel
theorem d10_11 : decode method_2_code 11 = .ok (.iconst 0, 1) := by decide +kernel
theorem d10_12 : decode method_2_code 12 = .ok (.istore 10, 2) := by decide +kernel
theorem d10_14 : decode method_2_code 14 = .ok (.lload 4, 2) := by decide +kernel
theorem d10_16 : decode method_2_code 16 = .ok (.lstore 11, 2) := by decide +kernel
theorem d10_18 : decode method_2_code 18 = .ok (.iload_n 2, 1) := by decide +kernel
theorem d10_19 : decode method_2_code 19 = .ok (.iload_n 0, 1) := by decide +kernel
theorem d10_20 : decode method_2_code 20 = .ok (.if_icmp .ne 23, 3) := by decide +kernel
theorem d10_23 : decode method_2_code 23 = .ok (.iload 10, 2) := by decide +kernel
theorem d10_25 : decode method_2_code 25 = .ok (.ifCond .lt 11, 3) := by decide +kernel
theorem d10_28 : decode method_2_code 28 = .ok (.lload 6, 2) := by decide +kernel
theorem d10_30 : decode method_2_code 30 = .ok (.lload 11, 2) := by decide +kernel
theorem d10_32 : decode method_2_code 32 = .ok (.lcmp, 1) := by decide +kernel
theorem d10_33 : decode method_2_code 33 = .ok (.ifCond .ge 10, 3) := by decide +kernel
theorem d10_36 : decode method_2_code 36 = .ok (.iconst 1, 1) := by decide +kernel
theorem d10_37 : decode method_2_code 37 = .ok (.istore 10, 2) := by decide +kernel
theorem d10_39 : decode method_2_code 39 = .ok (.lload 6, 2) := by decide +kernel
theorem d10_41 : decode method_2_code 41 = .ok (.lstore 11, 2) := by decide +kernel
theorem d10_43 : decode method_2_code 43 = .ok (.iload_n 3, 1) := by decide +kernel
theorem d10_44 : decode method_2_code 44 = .ok (.iload_n 0, 1) := by decide +kernel
theorem d10_45 : decode method_2_code 45 = .ok (.if_icmp .ne 23, 3) := by decide +kernel
theorem d10_48 : decode method_2_code 48 = .ok (.iload 10, 2) := by decide +kernel
theorem d10_50 : decode method_2_code 50 = .ok (.ifCond .lt 11, 3) := by decide +kernel
theorem d10_53 : decode method_2_code 53 = .ok (.lload 8, 2) := by decide +kernel
theorem d10_55 : decode method_2_code 55 = .ok (.lload 11, 2) := by decide +kernel
theorem d10_57 : decode method_2_code 57 = .ok (.lcmp, 1) := by decide +kernel
theorem d10_58 : decode method_2_code 58 = .ok (.ifCond .ge 10, 3) := by decide +kernel
theorem d10_61 : decode method_2_code 61 = .ok (.iconst 2, 1) := by decide +kernel
theorem d10_62 : decode method_2_code 62 = .ok (.istore 10, 2) := by decide +kernel
theorem d10_64 : decode method_2_code 64 = .ok (.lload 8, 2) := by decide +kernel
theorem d10_66 : decode method_2_code 66 = .ok (.lstore 11, 2) := by decide +kernel
theorem d10_68 : decode method_2_code 68 = .ok (.iload 10, 2) := by decide +kernel
theorem d10_70 : decode method_2_code 70 = .ok (.ireturn, 1) := by decide +kernel
theorem ef_10 (m : MethodId) (x0 : Int32) (x1 : Int32) (x2 : Int32) (x3 : Int32) (x4 : Int64) (x5 : Int64) (x6 : Int64) : entryFrame m #[(.int x0), (.int x1), (.int x2), (.int x3), (.long x4), (.long x5), (.long x6)] 13 = mkF m 0 #[.val (.int x0), .val (.int x1), .val (.int x2), .val (.int x3), .val (.long x4), .second, .val (.long x5), .second, .val (.long x6), .second, .unset, .unset, .unset] [] := by first | (simp [entryFrame, mkF, argsToLocals, Value.category]; done) | rfl
def f10_l10_18 (p1 : Int32) (p2 : Int32) : Int32 := (if p2 = p1 then (0 : Int32) else (-1 : Int32))
def f10_l11_18 (p1 : Int32) (p2 : Int32) (q5 : Int64) : Int64 := (if p2 = p1 then q5 else (0 : Int64))
def f10_l10_43 (p1 : Int32) (p2 : Int32) (p3 : Int32) (q5 : Int64) (q6 : Int64) : Int32 := (if p3 = p1 then (if (f10_l10_18 p1 p2) < (0 : Int32) then (1 : Int32) else (if q6 < (f10_l11_18 p1 p2 q5) then (1 : Int32) else (f10_l10_18 p1 p2))) else (f10_l10_18 p1 p2))
def f10_l11_43 (p1 : Int32) (p2 : Int32) (p3 : Int32) (q5 : Int64) (q6 : Int64) : Int64 := (if p3 = p1 then (if (f10_l10_18 p1 p2) < (0 : Int32) then q6 else (if q6 < (f10_l11_18 p1 p2 q5) then q6 else (f10_l11_18 p1 p2 q5))) else (f10_l11_18 p1 p2 q5))
def f10 (p1 : Int32) (p2 : Int32) (p3 : Int32) (p4 : Int32) (q5 : Int64) (q6 : Int64) (q7 : Int64) : Int32 := (if p4 = p1 then (if (f10_l10_43 p1 p2 p3 q5 q6) < (0 : Int32) then (2 : Int32) else (if q7 < (f10_l11_43 p1 p2 p3 q5 q6) then (2 : Int32) else (f10_l10_43 p1 p2 p3 q5 q6))) else (f10_l10_43 p1 p2 p3 q5 q6))
def Q10 (Z : State) (p1 : Int32) (p2 : Int32) (p3 : Int32) (p4 : Int32) (q5 : Int64) (q6 : Int64) (q7 : Int64) (h0 : Heap) (n0 : Nat) (v : Option Value) (h : Heap) (L : List Loc) : Prop := v = some (.int (f10 p1 p2 p3 p4 q5 q6 q7)) ∧ Fr n0 L ∧ h = h0
set_option maxRecDepth 65536 in
set_option maxHeartbeats 40000000 in
theorem rm10 (l : Launch) (Z : State) (a0 : Array Value) (hw : ∀ d ∈ tables_1, d.before a0 Z = true) (ws : List Jvm.Cond) (p1 : Int32) (p2 : Int32) (p3 : Int32) (p4 : Int32) (q5 : Int64) (q6 : Int64) (q7 : Int64) (h0 : Heap) (n0 : Nat) (Z0 : n0 ≤ h0.size) :
    MetFree l (⟨"com/example/podflow/podflow/simulation/ArrivalsFirstPinLaw", "ref", "(IIIIJJJ)I"⟩ : MethodName) (head1 (Jvm.Cond.code (⟨"com/example/podflow/podflow/simulation/ArrivalsFirstPinLaw", "ref", "(IIIIJJJ)I"⟩ : MethodName) method_2_code 13 (some .int) :: ws) ({ frames := 0, cells := 0, slots := 0, locals := 0 } : Room)) (fun a U => a = #[(.int p1), (.int p2), (.int p3), (.int p4), (.long q5), (.long q6), (.long q7)] ∧ Z.Warmed39 U.vm ∧ U.heap = h0) (fun _ _ _ _ _ => True) (fun _ U o U' => ∃ v L, o = .returned v ∧ Q10 Z p1 p2 p3 p4 q5 q6 q7 h0 n0 v U'.heap L ∧ FrameEnd U o U' L ({ frames := 0, cells := 0, slots := 0, locals := 0 } : Room).cells ({ frames := 0, cells := 0, slots := 0, locals := 0 } : Room).slots) := by
  refine MetFree.of_bodySF (plainFor_of_name pn_2) hisR ?_
  intro p e s m args below meth c s₁ Bd hml0 hP hK
  obtain ⟨rfl, hZ, hh⟩ := hP
  have hx := Bd.exec
  have hby := Bd.bytes
  have hml : c.maxLocals = 13 := hml0
  have hown : s.vm.findClass "com/example/podflow/podflow/simulation/ArrivalsFirstPinLaw" = some m.cls := findClass_of_methodNamed Bd.named
  have hnm := (name_of_methodNamed Bd.named Bd.method).1
  have X0 : Stand p l e ({ frames := 0, cells := 0, slots := 0, locals := 0 } : Room) s m #[(.int p1), (.int p2), (.int p3), (.int p4), (.long q5), (.long q6), (.long q7)] below meth c s₁ [] 0 0 := Stand.of_body Bd
  have e0 : s₁.heap = h0 := by rw [← hh, Bd.state]; rfl
  have N0 := Fr.nil n0
  have pre0 : ∀ t, Steps p.tables e below (s₁.setTop (mkF m 0 #[.val (.int p1), .val (.int p2), .val (.int p3), .val (.int p4), .val (.long q5), .second, .val (.long q6), .second, .val (.long q7), .second, .unset, .unset, .unset] [])) t → Steps p.tables e below (s₁.setTop (entryFrame m #[(.int p1), (.int p2), (.int p3), (.int p4), (.long q5), (.long q6), (.long q7)] 13)) t := fun t k => castTop (ef_10 m p1 p2 p3 p4 q5 q6 q7) k
  have pre1 : ∀ t, Steps p.tables e below (s₁.setTop (mkF m 8 #[.val (.int p1), .val (.int p2), .val (.int p3), .val (.int p4), .val (.long q5), .second, .val (.long q6), .second, .val (.long q7), .second, .val (.int (-1 : Int32)), .val (.long (0 : Int64)), .second] [(.int p1), (.int p2)])) t → Steps p.tables e below (s₁.setTop (entryFrame m #[(.int p1), (.int p2), (.int p3), (.int p4), (.long q5), (.long q6), (.long q7)] 13)) t := by
    intro t k
    refine pre0 t ?_
    show Steps p.tables e below (s₁.setTop (mkF m 0 #[.val (.int p1), .val (.int p2), .val (.int p3), .val (.int p4), .val (.long q5), .second, .val (.long q6), .second, .val (.long q7), .second, .unset, .unset, .unset] [])) _
    refine XS.iconst X0.here hx rfl (hb hby d10_0) ?_
    show Steps p.tables e below (s₁.setTop (mkF m 1 #[.val (.int p1), .val (.int p2), .val (.int p3), .val (.int p4), .val (.long q5), .second, .val (.long q6), .second, .val (.long q7), .second, .unset, .unset, .unset] [(.int (-1 : Int32))])) _
    refine XS.istore X0.here hx rfl (hb hby d10_1) rfl (l' := #[.val (.int p1), .val (.int p2), .val (.int p3), .val (.int p4), .val (.long q5), .second, .val (.long q6), .second, .val (.long q7), .second, .val (.int (-1 : Int32)), .unset, .unset]) rfl ?_
    show Steps p.tables e below (s₁.setTop (mkF m 3 #[.val (.int p1), .val (.int p2), .val (.int p3), .val (.int p4), .val (.long q5), .second, .val (.long q6), .second, .val (.long q7), .second, .val (.int (-1 : Int32)), .unset, .unset] [])) _
    refine XS.lconst X0.here hx rfl (hb hby d10_3) ?_
    show Steps p.tables e below (s₁.setTop (mkF m 4 #[.val (.int p1), .val (.int p2), .val (.int p3), .val (.int p4), .val (.long q5), .second, .val (.long q6), .second, .val (.long q7), .second, .val (.int (-1 : Int32)), .unset, .unset] [(.long (0 : Int64))])) _
    refine XS.lstore X0.here hx rfl (hb hby d10_4) rfl (l' := #[.val (.int p1), .val (.int p2), .val (.int p3), .val (.int p4), .val (.long q5), .second, .val (.long q6), .second, .val (.long q7), .second, .val (.int (-1 : Int32)), .val (.long (0 : Int64)), .second]) rfl ?_
    show Steps p.tables e below (s₁.setTop (mkF m 6 #[.val (.int p1), .val (.int p2), .val (.int p3), .val (.int p4), .val (.long q5), .second, .val (.long q6), .second, .val (.long q7), .second, .val (.int (-1 : Int32)), .val (.long (0 : Int64)), .second] [])) _
    refine XS.iloadN X0.here hx rfl (hb hby d10_6) rfl ?_
    show Steps p.tables e below (s₁.setTop (mkF m 7 #[.val (.int p1), .val (.int p2), .val (.int p3), .val (.int p4), .val (.long q5), .second, .val (.long q6), .second, .val (.long q7), .second, .val (.int (-1 : Int32)), .val (.long (0 : Int64)), .second] [(.int p2)])) _
    refine XS.iloadN X0.here hx rfl (hb hby d10_7) rfl ?_
    exact k
  have pre2 : ∀ t, Steps p.tables e below (s₁.setTop (mkF m 18 #[.val (.int p1), .val (.int p2), .val (.int p3), .val (.int p4), .val (.long q5), .second, .val (.long q6), .second, .val (.long q7), .second, .val (.int (f10_l10_18 p1 p2)), .val (.long (f10_l11_18 p1 p2 q5)), .second] [])) t → Steps p.tables e below (s₁.setTop (entryFrame m #[(.int p1), (.int p2), (.int p3), (.int p4), (.long q5), (.long q6), (.long q7)] 13)) t := by
    intro t k
    by_cases hc8 : p2 = p1
    · have eq3 := (show (f10_l10_18 p1 p2) = (0 : Int32) from by unfold f10_l10_18; simp only [if_pos hc8])
      have eq4 := (show (f10_l11_18 p1 p2 q5) = q5 from by unfold f10_l11_18; simp only [if_pos hc8])
      try rw [eq3] at k
      try rw [eq4] at k
      refine pre1 t ?_
      show Steps p.tables e below (s₁.setTop (mkF m 8 #[.val (.int p1), .val (.int p2), .val (.int p3), .val (.int p4), .val (.long q5), .second, .val (.long q6), .second, .val (.long q7), .second, .val (.int (-1 : Int32)), .val (.long (0 : Int64)), .second] [(.int p1), (.int p2)])) _
      refine XS.icmpNo X0.here hx rfl (hb hby d10_8) rfl (teq hc8).2 ?_
      show Steps p.tables e below (s₁.setTop (mkF m 11 #[.val (.int p1), .val (.int p2), .val (.int p3), .val (.int p4), .val (.long q5), .second, .val (.long q6), .second, .val (.long q7), .second, .val (.int (-1 : Int32)), .val (.long (0 : Int64)), .second] [])) _
      refine XS.iconst X0.here hx rfl (hb hby d10_11) ?_
      show Steps p.tables e below (s₁.setTop (mkF m 12 #[.val (.int p1), .val (.int p2), .val (.int p3), .val (.int p4), .val (.long q5), .second, .val (.long q6), .second, .val (.long q7), .second, .val (.int (-1 : Int32)), .val (.long (0 : Int64)), .second] [(.int (0 : Int32))])) _
      refine XS.istore X0.here hx rfl (hb hby d10_12) rfl (l' := #[.val (.int p1), .val (.int p2), .val (.int p3), .val (.int p4), .val (.long q5), .second, .val (.long q6), .second, .val (.long q7), .second, .val (.int (0 : Int32)), .val (.long (0 : Int64)), .second]) rfl ?_
      show Steps p.tables e below (s₁.setTop (mkF m 14 #[.val (.int p1), .val (.int p2), .val (.int p3), .val (.int p4), .val (.long q5), .second, .val (.long q6), .second, .val (.long q7), .second, .val (.int (0 : Int32)), .val (.long (0 : Int64)), .second] [])) _
      refine XS.lload X0.here hx rfl (hb hby d10_14) rfl ?_
      show Steps p.tables e below (s₁.setTop (mkF m 16 #[.val (.int p1), .val (.int p2), .val (.int p3), .val (.int p4), .val (.long q5), .second, .val (.long q6), .second, .val (.long q7), .second, .val (.int (0 : Int32)), .val (.long (0 : Int64)), .second] [(.long q5)])) _
      refine XS.lstore X0.here hx rfl (hb hby d10_16) rfl (l' := #[.val (.int p1), .val (.int p2), .val (.int p3), .val (.int p4), .val (.long q5), .second, .val (.long q6), .second, .val (.long q7), .second, .val (.int (0 : Int32)), .val (.long q5), .second]) rfl ?_
      exact k
    · have eq5 := (show (f10_l10_18 p1 p2) = (-1 : Int32) from by unfold f10_l10_18; simp only [if_neg hc8])
      have eq6 := (show (f10_l11_18 p1 p2 q5) = (0 : Int64) from by unfold f10_l11_18; simp only [if_neg hc8])
      try rw [eq5] at k
      try rw [eq6] at k
      refine pre1 t ?_
      show Steps p.tables e below (s₁.setTop (mkF m 8 #[.val (.int p1), .val (.int p2), .val (.int p3), .val (.int p4), .val (.long q5), .second, .val (.long q6), .second, .val (.long q7), .second, .val (.int (-1 : Int32)), .val (.long (0 : Int64)), .second] [(.int p1), (.int p2)])) _
      refine XS.icmpYes X0.here hx rfl (pc0 := 8) (pc' := 18) rfl (hb hby d10_8) rfl (feq hc8).2 (by decide) (by decide) ?_
      exact k
  have pre7 : ∀ t, Steps p.tables e below (s₁.setTop (mkF m 20 #[.val (.int p1), .val (.int p2), .val (.int p3), .val (.int p4), .val (.long q5), .second, .val (.long q6), .second, .val (.long q7), .second, .val (.int (f10_l10_18 p1 p2)), .val (.long (f10_l11_18 p1 p2 q5)), .second] [(.int p1), (.int p3)])) t → Steps p.tables e below (s₁.setTop (entryFrame m #[(.int p1), (.int p2), (.int p3), (.int p4), (.long q5), (.long q6), (.long q7)] 13)) t := by
    intro t k
    refine pre2 t ?_
    show Steps p.tables e below (s₁.setTop (mkF m 18 #[.val (.int p1), .val (.int p2), .val (.int p3), .val (.int p4), .val (.long q5), .second, .val (.long q6), .second, .val (.long q7), .second, .val (.int (f10_l10_18 p1 p2)), .val (.long (f10_l11_18 p1 p2 q5)), .second] [])) _
    refine XS.iloadN X0.here hx rfl (hb hby d10_18) rfl ?_
    show Steps p.tables e below (s₁.setTop (mkF m 19 #[.val (.int p1), .val (.int p2), .val (.int p3), .val (.int p4), .val (.long q5), .second, .val (.long q6), .second, .val (.long q7), .second, .val (.int (f10_l10_18 p1 p2)), .val (.long (f10_l11_18 p1 p2 q5)), .second] [(.int p3)])) _
    refine XS.iloadN X0.here hx rfl (hb hby d10_19) rfl ?_
    exact k
  have pre8 : ∀ t, Steps p.tables e below (s₁.setTop (mkF m 43 #[.val (.int p1), .val (.int p2), .val (.int p3), .val (.int p4), .val (.long q5), .second, .val (.long q6), .second, .val (.long q7), .second, .val (.int (f10_l10_43 p1 p2 p3 q5 q6)), .val (.long (f10_l11_43 p1 p2 p3 q5 q6)), .second] [])) t → Steps p.tables e below (s₁.setTop (entryFrame m #[(.int p1), (.int p2), (.int p3), (.int p4), (.long q5), (.long q6), (.long q7)] 13)) t := by
    intro t k
    by_cases hc20 : p3 = p1
    · have pre9 : ∀ t, Steps p.tables e below (s₁.setTop (mkF m 25 #[.val (.int p1), .val (.int p2), .val (.int p3), .val (.int p4), .val (.long q5), .second, .val (.long q6), .second, .val (.long q7), .second, .val (.int (f10_l10_18 p1 p2)), .val (.long (f10_l11_18 p1 p2 q5)), .second] [(.int (f10_l10_18 p1 p2))])) t → Steps p.tables e below (s₁.setTop (entryFrame m #[(.int p1), (.int p2), (.int p3), (.int p4), (.long q5), (.long q6), (.long q7)] 13)) t := by
        intro t k
        refine pre7 t ?_
        show Steps p.tables e below (s₁.setTop (mkF m 20 #[.val (.int p1), .val (.int p2), .val (.int p3), .val (.int p4), .val (.long q5), .second, .val (.long q6), .second, .val (.long q7), .second, .val (.int (f10_l10_18 p1 p2)), .val (.long (f10_l11_18 p1 p2 q5)), .second] [(.int p1), (.int p3)])) _
        refine XS.icmpNo X0.here hx rfl (hb hby d10_20) rfl (teq hc20).2 ?_
        show Steps p.tables e below (s₁.setTop (mkF m 23 #[.val (.int p1), .val (.int p2), .val (.int p3), .val (.int p4), .val (.long q5), .second, .val (.long q6), .second, .val (.long q7), .second, .val (.int (f10_l10_18 p1 p2)), .val (.long (f10_l11_18 p1 p2 q5)), .second] [])) _
        refine XS.iload X0.here hx rfl (hb hby d10_23) rfl ?_
        exact k
      by_cases hc25 : (f10_l10_18 p1 p2) < (0 : Int32)
      · have eq10 := (show (f10_l10_43 p1 p2 p3 q5 q6) = (1 : Int32) from by unfold f10_l10_43; simp only [if_pos hc20, if_pos hc25])
        have eq11 := (show (f10_l11_43 p1 p2 p3 q5 q6) = q6 from by unfold f10_l11_43; simp only [if_pos hc20, if_pos hc25])
        try rw [eq10] at k
        try rw [eq11] at k
        refine pre9 t ?_
        show Steps p.tables e below (s₁.setTop (mkF m 25 #[.val (.int p1), .val (.int p2), .val (.int p3), .val (.int p4), .val (.long q5), .second, .val (.long q6), .second, .val (.long q7), .second, .val (.int (f10_l10_18 p1 p2)), .val (.long (f10_l11_18 p1 p2 q5)), .second] [(.int (f10_l10_18 p1 p2))])) _
        refine XS.ifYes X0.here hx rfl (pc0 := 25) (pc' := 36) rfl (hb hby d10_25) rfl ((if0 _ _).trans (tlt hc25).1) (by decide) (by decide) ?_
        show Steps p.tables e below (s₁.setTop (mkF m 36 #[.val (.int p1), .val (.int p2), .val (.int p3), .val (.int p4), .val (.long q5), .second, .val (.long q6), .second, .val (.long q7), .second, .val (.int (f10_l10_18 p1 p2)), .val (.long (f10_l11_18 p1 p2 q5)), .second] [])) _
        refine XS.iconst X0.here hx rfl (hb hby d10_36) ?_
        show Steps p.tables e below (s₁.setTop (mkF m 37 #[.val (.int p1), .val (.int p2), .val (.int p3), .val (.int p4), .val (.long q5), .second, .val (.long q6), .second, .val (.long q7), .second, .val (.int (f10_l10_18 p1 p2)), .val (.long (f10_l11_18 p1 p2 q5)), .second] [(.int (1 : Int32))])) _
        refine XS.istore X0.here hx rfl (hb hby d10_37) rfl (l' := #[.val (.int p1), .val (.int p2), .val (.int p3), .val (.int p4), .val (.long q5), .second, .val (.long q6), .second, .val (.long q7), .second, .val (.int (1 : Int32)), .val (.long (f10_l11_18 p1 p2 q5)), .second]) rfl ?_
        show Steps p.tables e below (s₁.setTop (mkF m 39 #[.val (.int p1), .val (.int p2), .val (.int p3), .val (.int p4), .val (.long q5), .second, .val (.long q6), .second, .val (.long q7), .second, .val (.int (1 : Int32)), .val (.long (f10_l11_18 p1 p2 q5)), .second] [])) _
        refine XS.lload X0.here hx rfl (hb hby d10_39) rfl ?_
        show Steps p.tables e below (s₁.setTop (mkF m 41 #[.val (.int p1), .val (.int p2), .val (.int p3), .val (.int p4), .val (.long q5), .second, .val (.long q6), .second, .val (.long q7), .second, .val (.int (1 : Int32)), .val (.long (f10_l11_18 p1 p2 q5)), .second] [(.long q6)])) _
        refine XS.lstore X0.here hx rfl (hb hby d10_41) rfl (l' := #[.val (.int p1), .val (.int p2), .val (.int p3), .val (.int p4), .val (.long q5), .second, .val (.long q6), .second, .val (.long q7), .second, .val (.int (1 : Int32)), .val (.long q6), .second]) rfl ?_
        exact k
      · have pre12 : ∀ t, Steps p.tables e below (s₁.setTop (mkF m 33 #[.val (.int p1), .val (.int p2), .val (.int p3), .val (.int p4), .val (.long q5), .second, .val (.long q6), .second, .val (.long q7), .second, .val (.int (f10_l10_18 p1 p2)), .val (.long (f10_l11_18 p1 p2 q5)), .second] [(.int (lcmpW q6 (f10_l11_18 p1 p2 q5)))])) t → Steps p.tables e below (s₁.setTop (entryFrame m #[(.int p1), (.int p2), (.int p3), (.int p4), (.long q5), (.long q6), (.long q7)] 13)) t := by
          intro t k
          refine pre9 t ?_
          show Steps p.tables e below (s₁.setTop (mkF m 25 #[.val (.int p1), .val (.int p2), .val (.int p3), .val (.int p4), .val (.long q5), .second, .val (.long q6), .second, .val (.long q7), .second, .val (.int (f10_l10_18 p1 p2)), .val (.long (f10_l11_18 p1 p2 q5)), .second] [(.int (f10_l10_18 p1 p2))])) _
          refine XS.ifNo X0.here hx rfl (hb hby d10_25) rfl ((if0 _ _).trans (flt hc25).1) ?_
          show Steps p.tables e below (s₁.setTop (mkF m 28 #[.val (.int p1), .val (.int p2), .val (.int p3), .val (.int p4), .val (.long q5), .second, .val (.long q6), .second, .val (.long q7), .second, .val (.int (f10_l10_18 p1 p2)), .val (.long (f10_l11_18 p1 p2 q5)), .second] [])) _
          refine XS.lload X0.here hx rfl (hb hby d10_28) rfl ?_
          show Steps p.tables e below (s₁.setTop (mkF m 30 #[.val (.int p1), .val (.int p2), .val (.int p3), .val (.int p4), .val (.long q5), .second, .val (.long q6), .second, .val (.long q7), .second, .val (.int (f10_l10_18 p1 p2)), .val (.long (f10_l11_18 p1 p2 q5)), .second] [(.long q6)])) _
          refine XS.lload X0.here hx rfl (hb hby d10_30) rfl ?_
          show Steps p.tables e below (s₁.setTop (mkF m 32 #[.val (.int p1), .val (.int p2), .val (.int p3), .val (.int p4), .val (.long q5), .second, .val (.long q6), .second, .val (.long q7), .second, .val (.int (f10_l10_18 p1 p2)), .val (.long (f10_l11_18 p1 p2 q5)), .second] [(.long (f10_l11_18 p1 p2 q5)), (.long q6)])) _
          refine XS.lcmp X0.here hx rfl (hb hby d10_32) rfl ?_
          exact k
        by_cases hc33 : q6 < (f10_l11_18 p1 p2 q5)
        · have eq13 := (show (f10_l10_43 p1 p2 p3 q5 q6) = (1 : Int32) from by unfold f10_l10_43; simp only [if_pos hc20, if_neg hc25, if_pos hc33])
          have eq14 := (show (f10_l11_43 p1 p2 p3 q5 q6) = q6 from by unfold f10_l11_43; simp only [if_pos hc20, if_neg hc25, if_pos hc33])
          try rw [eq13] at k
          try rw [eq14] at k
          refine pre12 t ?_
          show Steps p.tables e below (s₁.setTop (mkF m 33 #[.val (.int p1), .val (.int p2), .val (.int p3), .val (.int p4), .val (.long q5), .second, .val (.long q6), .second, .val (.long q7), .second, .val (.int (f10_l10_18 p1 p2)), .val (.long (f10_l11_18 p1 p2 q5)), .second] [(.int (lcmpW q6 (f10_l11_18 p1 p2 q5)))])) _
          refine XS.ifNo X0.here hx rfl (hb hby d10_33) rfl ((if0 _ _).trans (tlt ((lw_lt _ _).mpr hc33)).2.1) ?_
          show Steps p.tables e below (s₁.setTop (mkF m 36 #[.val (.int p1), .val (.int p2), .val (.int p3), .val (.int p4), .val (.long q5), .second, .val (.long q6), .second, .val (.long q7), .second, .val (.int (f10_l10_18 p1 p2)), .val (.long (f10_l11_18 p1 p2 q5)), .second] [])) _
          refine XS.iconst X0.here hx rfl (hb hby d10_36) ?_
          show Steps p.tables e below (s₁.setTop (mkF m 37 #[.val (.int p1), .val (.int p2), .val (.int p3), .val (.int p4), .val (.long q5), .second, .val (.long q6), .second, .val (.long q7), .second, .val (.int (f10_l10_18 p1 p2)), .val (.long (f10_l11_18 p1 p2 q5)), .second] [(.int (1 : Int32))])) _
          refine XS.istore X0.here hx rfl (hb hby d10_37) rfl (l' := #[.val (.int p1), .val (.int p2), .val (.int p3), .val (.int p4), .val (.long q5), .second, .val (.long q6), .second, .val (.long q7), .second, .val (.int (1 : Int32)), .val (.long (f10_l11_18 p1 p2 q5)), .second]) rfl ?_
          show Steps p.tables e below (s₁.setTop (mkF m 39 #[.val (.int p1), .val (.int p2), .val (.int p3), .val (.int p4), .val (.long q5), .second, .val (.long q6), .second, .val (.long q7), .second, .val (.int (1 : Int32)), .val (.long (f10_l11_18 p1 p2 q5)), .second] [])) _
          refine XS.lload X0.here hx rfl (hb hby d10_39) rfl ?_
          show Steps p.tables e below (s₁.setTop (mkF m 41 #[.val (.int p1), .val (.int p2), .val (.int p3), .val (.int p4), .val (.long q5), .second, .val (.long q6), .second, .val (.long q7), .second, .val (.int (1 : Int32)), .val (.long (f10_l11_18 p1 p2 q5)), .second] [(.long q6)])) _
          refine XS.lstore X0.here hx rfl (hb hby d10_41) rfl (l' := #[.val (.int p1), .val (.int p2), .val (.int p3), .val (.int p4), .val (.long q5), .second, .val (.long q6), .second, .val (.long q7), .second, .val (.int (1 : Int32)), .val (.long q6), .second]) rfl ?_
          exact k
        · have eq15 := (show (f10_l10_43 p1 p2 p3 q5 q6) = (f10_l10_18 p1 p2) from by unfold f10_l10_43; simp only [if_pos hc20, if_neg hc25, if_neg hc33])
          have eq16 := (show (f10_l11_43 p1 p2 p3 q5 q6) = (f10_l11_18 p1 p2 q5) from by unfold f10_l11_43; simp only [if_pos hc20, if_neg hc25, if_neg hc33])
          try rw [eq15] at k
          try rw [eq16] at k
          refine pre12 t ?_
          show Steps p.tables e below (s₁.setTop (mkF m 33 #[.val (.int p1), .val (.int p2), .val (.int p3), .val (.int p4), .val (.long q5), .second, .val (.long q6), .second, .val (.long q7), .second, .val (.int (f10_l10_18 p1 p2)), .val (.long (f10_l11_18 p1 p2 q5)), .second] [(.int (lcmpW q6 (f10_l11_18 p1 p2 q5)))])) _
          refine XS.ifYes X0.here hx rfl (pc0 := 33) (pc' := 43) rfl (hb hby d10_33) rfl ((if0 _ _).trans (flt (fun q => hc33 ((lw_lt _ _).mp q))).2.1) (by decide) (by decide) ?_
          exact k
    · have eq17 := (show (f10_l10_43 p1 p2 p3 q5 q6) = (f10_l10_18 p1 p2) from by unfold f10_l10_43; simp only [if_neg hc20])
      have eq18 := (show (f10_l11_43 p1 p2 p3 q5 q6) = (f10_l11_18 p1 p2 q5) from by unfold f10_l11_43; simp only [if_neg hc20])
      try rw [eq17] at k
      try rw [eq18] at k
      refine pre7 t ?_
      show Steps p.tables e below (s₁.setTop (mkF m 20 #[.val (.int p1), .val (.int p2), .val (.int p3), .val (.int p4), .val (.long q5), .second, .val (.long q6), .second, .val (.long q7), .second, .val (.int (f10_l10_18 p1 p2)), .val (.long (f10_l11_18 p1 p2 q5)), .second] [(.int p1), (.int p3)])) _
      refine XS.icmpYes X0.here hx rfl (pc0 := 20) (pc' := 43) rfl (hb hby d10_20) rfl (feq hc20).2 (by decide) (by decide) ?_
      exact k
  have pre19 : ∀ t, Steps p.tables e below (s₁.setTop (mkF m 45 #[.val (.int p1), .val (.int p2), .val (.int p3), .val (.int p4), .val (.long q5), .second, .val (.long q6), .second, .val (.long q7), .second, .val (.int (f10_l10_43 p1 p2 p3 q5 q6)), .val (.long (f10_l11_43 p1 p2 p3 q5 q6)), .second] [(.int p1), (.int p4)])) t → Steps p.tables e below (s₁.setTop (entryFrame m #[(.int p1), (.int p2), (.int p3), (.int p4), (.long q5), (.long q6), (.long q7)] 13)) t := by
    intro t k
    refine pre8 t ?_
    show Steps p.tables e below (s₁.setTop (mkF m 43 #[.val (.int p1), .val (.int p2), .val (.int p3), .val (.int p4), .val (.long q5), .second, .val (.long q6), .second, .val (.long q7), .second, .val (.int (f10_l10_43 p1 p2 p3 q5 q6)), .val (.long (f10_l11_43 p1 p2 p3 q5 q6)), .second] [])) _
    refine XS.iloadN X0.here hx rfl (hb hby d10_43) rfl ?_
    show Steps p.tables e below (s₁.setTop (mkF m 44 #[.val (.int p1), .val (.int p2), .val (.int p3), .val (.int p4), .val (.long q5), .second, .val (.long q6), .second, .val (.long q7), .second, .val (.int (f10_l10_43 p1 p2 p3 q5 q6)), .val (.long (f10_l11_43 p1 p2 p3 q5 q6)), .second] [(.int p4)])) _
    refine XS.iloadN X0.here hx rfl (hb hby d10_44) rfl ?_
    exact k
  by_cases hc45 : p4 = p1
  · have pre20 : ∀ t, Steps p.tables e below (s₁.setTop (mkF m 50 #[.val (.int p1), .val (.int p2), .val (.int p3), .val (.int p4), .val (.long q5), .second, .val (.long q6), .second, .val (.long q7), .second, .val (.int (f10_l10_43 p1 p2 p3 q5 q6)), .val (.long (f10_l11_43 p1 p2 p3 q5 q6)), .second] [(.int (f10_l10_43 p1 p2 p3 q5 q6))])) t → Steps p.tables e below (s₁.setTop (entryFrame m #[(.int p1), (.int p2), (.int p3), (.int p4), (.long q5), (.long q6), (.long q7)] 13)) t := by
      intro t k
      refine pre19 t ?_
      show Steps p.tables e below (s₁.setTop (mkF m 45 #[.val (.int p1), .val (.int p2), .val (.int p3), .val (.int p4), .val (.long q5), .second, .val (.long q6), .second, .val (.long q7), .second, .val (.int (f10_l10_43 p1 p2 p3 q5 q6)), .val (.long (f10_l11_43 p1 p2 p3 q5 q6)), .second] [(.int p1), (.int p4)])) _
      refine XS.icmpNo X0.here hx rfl (hb hby d10_45) rfl (teq hc45).2 ?_
      show Steps p.tables e below (s₁.setTop (mkF m 48 #[.val (.int p1), .val (.int p2), .val (.int p3), .val (.int p4), .val (.long q5), .second, .val (.long q6), .second, .val (.long q7), .second, .val (.int (f10_l10_43 p1 p2 p3 q5 q6)), .val (.long (f10_l11_43 p1 p2 p3 q5 q6)), .second] [])) _
      refine XS.iload X0.here hx rfl (hb hby d10_48) rfl ?_
      exact k
    by_cases hc50 : (f10_l10_43 p1 p2 p3 q5 q6) < (0 : Int32)
    · have eq21 : (f10 p1 p2 p3 p4 q5 q6 q7) = (2 : Int32) := by unfold f10; simp only [if_pos hc45, if_pos hc50]
      obtain ⟨fs, hr, hrun, hended, hW, hsame⟩ := X0.leave (v := some (.int (2 : Int32))) (fun h => by rw [Bd.returns] at h; cases h)
      refine ⟨_, _, pre20 _ ?_, hrun, hended, _, _, rfl, ?_, ⟨_, rfl⟩, hW, hsame.mono (by decide) (by decide)⟩
      · show Steps p.tables e below (s₁.setTop (mkF m 50 #[.val (.int p1), .val (.int p2), .val (.int p3), .val (.int p4), .val (.long q5), .second, .val (.long q6), .second, .val (.long q7), .second, .val (.int (f10_l10_43 p1 p2 p3 q5 q6)), .val (.long (f10_l11_43 p1 p2 p3 q5 q6)), .second] [(.int (f10_l10_43 p1 p2 p3 q5 q6))])) _
        refine XS.ifYes X0.here hx rfl (pc0 := 50) (pc' := 61) rfl (hb hby d10_50) rfl ((if0 _ _).trans (tlt hc50).1) (by decide) (by decide) ?_
        show Steps p.tables e below (s₁.setTop (mkF m 61 #[.val (.int p1), .val (.int p2), .val (.int p3), .val (.int p4), .val (.long q5), .second, .val (.long q6), .second, .val (.long q7), .second, .val (.int (f10_l10_43 p1 p2 p3 q5 q6)), .val (.long (f10_l11_43 p1 p2 p3 q5 q6)), .second] [])) _
        refine XS.iconst X0.here hx rfl (hb hby d10_61) ?_
        show Steps p.tables e below (s₁.setTop (mkF m 62 #[.val (.int p1), .val (.int p2), .val (.int p3), .val (.int p4), .val (.long q5), .second, .val (.long q6), .second, .val (.long q7), .second, .val (.int (f10_l10_43 p1 p2 p3 q5 q6)), .val (.long (f10_l11_43 p1 p2 p3 q5 q6)), .second] [(.int (2 : Int32))])) _
        refine XS.istore X0.here hx rfl (hb hby d10_62) rfl (l' := #[.val (.int p1), .val (.int p2), .val (.int p3), .val (.int p4), .val (.long q5), .second, .val (.long q6), .second, .val (.long q7), .second, .val (.int (2 : Int32)), .val (.long (f10_l11_43 p1 p2 p3 q5 q6)), .second]) rfl ?_
        show Steps p.tables e below (s₁.setTop (mkF m 64 #[.val (.int p1), .val (.int p2), .val (.int p3), .val (.int p4), .val (.long q5), .second, .val (.long q6), .second, .val (.long q7), .second, .val (.int (2 : Int32)), .val (.long (f10_l11_43 p1 p2 p3 q5 q6)), .second] [])) _
        refine XS.lload X0.here hx rfl (hb hby d10_64) rfl ?_
        show Steps p.tables e below (s₁.setTop (mkF m 66 #[.val (.int p1), .val (.int p2), .val (.int p3), .val (.int p4), .val (.long q5), .second, .val (.long q6), .second, .val (.long q7), .second, .val (.int (2 : Int32)), .val (.long (f10_l11_43 p1 p2 p3 q5 q6)), .second] [(.long q7)])) _
        refine XS.lstore X0.here hx rfl (hb hby d10_66) rfl (l' := #[.val (.int p1), .val (.int p2), .val (.int p3), .val (.int p4), .val (.long q5), .second, .val (.long q6), .second, .val (.long q7), .second, .val (.int (2 : Int32)), .val (.long q7), .second]) rfl ?_
        show Steps p.tables e below (s₁.setTop (mkF m 68 #[.val (.int p1), .val (.int p2), .val (.int p3), .val (.int p4), .val (.long q5), .second, .val (.long q6), .second, .val (.long q7), .second, .val (.int (2 : Int32)), .val (.long q7), .second] [])) _
        refine XS.iload X0.here hx rfl (hb hby d10_68) rfl ?_
        show Steps p.tables e below (s₁.setTop (mkF m 70 #[.val (.int p1), .val (.int p2), .val (.int p3), .val (.int p4), .val (.long q5), .second, .val (.long q6), .second, .val (.long q7), .second, .val (.int (2 : Int32)), .val (.long q7), .second] [(.int (2 : Int32))])) _
        exact retI X0 hx Bd.returns (hb hby d10_70) hr
      · show Q10 Z p1 p2 p3 p4 q5 q6 q7 h0 n0 _ s₁.heap _
        rw [e0]
        exact ⟨by rw [eq21], N0, rfl⟩
    · have pre22 : ∀ t, Steps p.tables e below (s₁.setTop (mkF m 58 #[.val (.int p1), .val (.int p2), .val (.int p3), .val (.int p4), .val (.long q5), .second, .val (.long q6), .second, .val (.long q7), .second, .val (.int (f10_l10_43 p1 p2 p3 q5 q6)), .val (.long (f10_l11_43 p1 p2 p3 q5 q6)), .second] [(.int (lcmpW q7 (f10_l11_43 p1 p2 p3 q5 q6)))])) t → Steps p.tables e below (s₁.setTop (entryFrame m #[(.int p1), (.int p2), (.int p3), (.int p4), (.long q5), (.long q6), (.long q7)] 13)) t := by
        intro t k
        refine pre20 t ?_
        show Steps p.tables e below (s₁.setTop (mkF m 50 #[.val (.int p1), .val (.int p2), .val (.int p3), .val (.int p4), .val (.long q5), .second, .val (.long q6), .second, .val (.long q7), .second, .val (.int (f10_l10_43 p1 p2 p3 q5 q6)), .val (.long (f10_l11_43 p1 p2 p3 q5 q6)), .second] [(.int (f10_l10_43 p1 p2 p3 q5 q6))])) _
        refine XS.ifNo X0.here hx rfl (hb hby d10_50) rfl ((if0 _ _).trans (flt hc50).1) ?_
        show Steps p.tables e below (s₁.setTop (mkF m 53 #[.val (.int p1), .val (.int p2), .val (.int p3), .val (.int p4), .val (.long q5), .second, .val (.long q6), .second, .val (.long q7), .second, .val (.int (f10_l10_43 p1 p2 p3 q5 q6)), .val (.long (f10_l11_43 p1 p2 p3 q5 q6)), .second] [])) _
        refine XS.lload X0.here hx rfl (hb hby d10_53) rfl ?_
        show Steps p.tables e below (s₁.setTop (mkF m 55 #[.val (.int p1), .val (.int p2), .val (.int p3), .val (.int p4), .val (.long q5), .second, .val (.long q6), .second, .val (.long q7), .second, .val (.int (f10_l10_43 p1 p2 p3 q5 q6)), .val (.long (f10_l11_43 p1 p2 p3 q5 q6)), .second] [(.long q7)])) _
        refine XS.lload X0.here hx rfl (hb hby d10_55) rfl ?_
        show Steps p.tables e below (s₁.setTop (mkF m 57 #[.val (.int p1), .val (.int p2), .val (.int p3), .val (.int p4), .val (.long q5), .second, .val (.long q6), .second, .val (.long q7), .second, .val (.int (f10_l10_43 p1 p2 p3 q5 q6)), .val (.long (f10_l11_43 p1 p2 p3 q5 q6)), .second] [(.long (f10_l11_43 p1 p2 p3 q5 q6)), (.long q7)])) _
        refine XS.lcmp X0.here hx rfl (hb hby d10_57) rfl ?_
        exact k
      by_cases hc58 : q7 < (f10_l11_43 p1 p2 p3 q5 q6)
      · have eq23 : (f10 p1 p2 p3 p4 q5 q6 q7) = (2 : Int32) := by unfold f10; simp only [if_pos hc45, if_neg hc50, if_pos hc58]
        obtain ⟨fs, hr, hrun, hended, hW, hsame⟩ := X0.leave (v := some (.int (2 : Int32))) (fun h => by rw [Bd.returns] at h; cases h)
        refine ⟨_, _, pre22 _ ?_, hrun, hended, _, _, rfl, ?_, ⟨_, rfl⟩, hW, hsame.mono (by decide) (by decide)⟩
        · show Steps p.tables e below (s₁.setTop (mkF m 58 #[.val (.int p1), .val (.int p2), .val (.int p3), .val (.int p4), .val (.long q5), .second, .val (.long q6), .second, .val (.long q7), .second, .val (.int (f10_l10_43 p1 p2 p3 q5 q6)), .val (.long (f10_l11_43 p1 p2 p3 q5 q6)), .second] [(.int (lcmpW q7 (f10_l11_43 p1 p2 p3 q5 q6)))])) _
          refine XS.ifNo X0.here hx rfl (hb hby d10_58) rfl ((if0 _ _).trans (tlt ((lw_lt _ _).mpr hc58)).2.1) ?_
          show Steps p.tables e below (s₁.setTop (mkF m 61 #[.val (.int p1), .val (.int p2), .val (.int p3), .val (.int p4), .val (.long q5), .second, .val (.long q6), .second, .val (.long q7), .second, .val (.int (f10_l10_43 p1 p2 p3 q5 q6)), .val (.long (f10_l11_43 p1 p2 p3 q5 q6)), .second] [])) _
          refine XS.iconst X0.here hx rfl (hb hby d10_61) ?_
          show Steps p.tables e below (s₁.setTop (mkF m 62 #[.val (.int p1), .val (.int p2), .val (.int p3), .val (.int p4), .val (.long q5), .second, .val (.long q6), .second, .val (.long q7), .second, .val (.int (f10_l10_43 p1 p2 p3 q5 q6)), .val (.long (f10_l11_43 p1 p2 p3 q5 q6)), .second] [(.int (2 : Int32))])) _
          refine XS.istore X0.here hx rfl (hb hby d10_62) rfl (l' := #[.val (.int p1), .val (.int p2), .val (.int p3), .val (.int p4), .val (.long q5), .second, .val (.long q6), .second, .val (.long q7), .second, .val (.int (2 : Int32)), .val (.long (f10_l11_43 p1 p2 p3 q5 q6)), .second]) rfl ?_
          show Steps p.tables e below (s₁.setTop (mkF m 64 #[.val (.int p1), .val (.int p2), .val (.int p3), .val (.int p4), .val (.long q5), .second, .val (.long q6), .second, .val (.long q7), .second, .val (.int (2 : Int32)), .val (.long (f10_l11_43 p1 p2 p3 q5 q6)), .second] [])) _
          refine XS.lload X0.here hx rfl (hb hby d10_64) rfl ?_
          show Steps p.tables e below (s₁.setTop (mkF m 66 #[.val (.int p1), .val (.int p2), .val (.int p3), .val (.int p4), .val (.long q5), .second, .val (.long q6), .second, .val (.long q7), .second, .val (.int (2 : Int32)), .val (.long (f10_l11_43 p1 p2 p3 q5 q6)), .second] [(.long q7)])) _
          refine XS.lstore X0.here hx rfl (hb hby d10_66) rfl (l' := #[.val (.int p1), .val (.int p2), .val (.int p3), .val (.int p4), .val (.long q5), .second, .val (.long q6), .second, .val (.long q7), .second, .val (.int (2 : Int32)), .val (.long q7), .second]) rfl ?_
          show Steps p.tables e below (s₁.setTop (mkF m 68 #[.val (.int p1), .val (.int p2), .val (.int p3), .val (.int p4), .val (.long q5), .second, .val (.long q6), .second, .val (.long q7), .second, .val (.int (2 : Int32)), .val (.long q7), .second] [])) _
          refine XS.iload X0.here hx rfl (hb hby d10_68) rfl ?_
          show Steps p.tables e below (s₁.setTop (mkF m 70 #[.val (.int p1), .val (.int p2), .val (.int p3), .val (.int p4), .val (.long q5), .second, .val (.long q6), .second, .val (.long q7), .second, .val (.int (2 : Int32)), .val (.long q7), .second] [(.int (2 : Int32))])) _
          exact retI X0 hx Bd.returns (hb hby d10_70) hr
        · show Q10 Z p1 p2 p3 p4 q5 q6 q7 h0 n0 _ s₁.heap _
          rw [e0]
          exact ⟨by rw [eq23], N0, rfl⟩
      · have eq24 : (f10 p1 p2 p3 p4 q5 q6 q7) = (f10_l10_43 p1 p2 p3 q5 q6) := by unfold f10; simp only [if_pos hc45, if_neg hc50, if_neg hc58]
        obtain ⟨fs, hr, hrun, hended, hW, hsame⟩ := X0.leave (v := some (.int (f10_l10_43 p1 p2 p3 q5 q6))) (fun h => by rw [Bd.returns] at h; cases h)
        refine ⟨_, _, pre22 _ ?_, hrun, hended, _, _, rfl, ?_, ⟨_, rfl⟩, hW, hsame.mono (by decide) (by decide)⟩
        · show Steps p.tables e below (s₁.setTop (mkF m 58 #[.val (.int p1), .val (.int p2), .val (.int p3), .val (.int p4), .val (.long q5), .second, .val (.long q6), .second, .val (.long q7), .second, .val (.int (f10_l10_43 p1 p2 p3 q5 q6)), .val (.long (f10_l11_43 p1 p2 p3 q5 q6)), .second] [(.int (lcmpW q7 (f10_l11_43 p1 p2 p3 q5 q6)))])) _
          refine XS.ifYes X0.here hx rfl (pc0 := 58) (pc' := 68) rfl (hb hby d10_58) rfl ((if0 _ _).trans (flt (fun q => hc58 ((lw_lt _ _).mp q))).2.1) (by decide) (by decide) ?_
          show Steps p.tables e below (s₁.setTop (mkF m 68 #[.val (.int p1), .val (.int p2), .val (.int p3), .val (.int p4), .val (.long q5), .second, .val (.long q6), .second, .val (.long q7), .second, .val (.int (f10_l10_43 p1 p2 p3 q5 q6)), .val (.long (f10_l11_43 p1 p2 p3 q5 q6)), .second] [])) _
          refine XS.iload X0.here hx rfl (hb hby d10_68) rfl ?_
          show Steps p.tables e below (s₁.setTop (mkF m 70 #[.val (.int p1), .val (.int p2), .val (.int p3), .val (.int p4), .val (.long q5), .second, .val (.long q6), .second, .val (.long q7), .second, .val (.int (f10_l10_43 p1 p2 p3 q5 q6)), .val (.long (f10_l11_43 p1 p2 p3 q5 q6)), .second] [(.int (f10_l10_43 p1 p2 p3 q5 q6))])) _
          exact retI X0 hx Bd.returns (hb hby d10_70) hr
        · show Q10 Z p1 p2 p3 p4 q5 q6 q7 h0 n0 _ s₁.heap _
          rw [e0]
          exact ⟨by rw [eq24], N0, rfl⟩
  · have eq25 : (f10 p1 p2 p3 p4 q5 q6 q7) = (f10_l10_43 p1 p2 p3 q5 q6) := by unfold f10; simp only [if_neg hc45]
    obtain ⟨fs, hr, hrun, hended, hW, hsame⟩ := X0.leave (v := some (.int (f10_l10_43 p1 p2 p3 q5 q6))) (fun h => by rw [Bd.returns] at h; cases h)
    refine ⟨_, _, pre19 _ ?_, hrun, hended, _, _, rfl, ?_, ⟨_, rfl⟩, hW, hsame.mono (by decide) (by decide)⟩
    · show Steps p.tables e below (s₁.setTop (mkF m 45 #[.val (.int p1), .val (.int p2), .val (.int p3), .val (.int p4), .val (.long q5), .second, .val (.long q6), .second, .val (.long q7), .second, .val (.int (f10_l10_43 p1 p2 p3 q5 q6)), .val (.long (f10_l11_43 p1 p2 p3 q5 q6)), .second] [(.int p1), (.int p4)])) _
      refine XS.icmpYes X0.here hx rfl (pc0 := 45) (pc' := 68) rfl (hb hby d10_45) rfl (feq hc45).2 (by decide) (by decide) ?_
      show Steps p.tables e below (s₁.setTop (mkF m 68 #[.val (.int p1), .val (.int p2), .val (.int p3), .val (.int p4), .val (.long q5), .second, .val (.long q6), .second, .val (.long q7), .second, .val (.int (f10_l10_43 p1 p2 p3 q5 q6)), .val (.long (f10_l11_43 p1 p2 p3 q5 q6)), .second] [])) _
      refine XS.iload X0.here hx rfl (hb hby d10_68) rfl ?_
      show Steps p.tables e below (s₁.setTop (mkF m 70 #[.val (.int p1), .val (.int p2), .val (.int p3), .val (.int p4), .val (.long q5), .second, .val (.long q6), .second, .val (.long q7), .second, .val (.int (f10_l10_43 p1 p2 p3 q5 q6)), .val (.long (f10_l11_43 p1 p2 p3 q5 q6)), .second] [(.int (f10_l10_43 p1 p2 p3 q5 q6))])) _
      exact retI X0 hx Bd.returns (hb hby d10_70) hr
    · show Q10 Z p1 p2 p3 p4 q5 q6 q7 h0 n0 _ s₁.heap _
      rw [e0]
      exact ⟨by rw [eq25], N0, rfl⟩
theorem pd_5 : parseMethodDescriptor "(I[I[J)V" = some ⟨[.int, (.array .int), (.array .long)], none⟩ := by decide +kernel
theorem pd_6 : parseMethodDescriptor "(I)I" = some ⟨[.int], some .int⟩ := by decide +kernel
theorem pd_7 : parseMethodDescriptor "(IIIIJJJ)I" = some ⟨[.int, .int, .int, .int, .long, .long, .long], some .int⟩ := by decide +kernel
theorem ef_0 (m : MethodId) (x0 : Int32) (x1 : Int64) (x2 : Int64) (x3 : Int64) : entryFrame m #[(.int x0), (.long x1), (.long x2), (.long x3)] maxLocals = mkF m 0 #[.val (.int x0), .val (.long x1), .second, .val (.long x2), .second, .val (.long x3), .second, .unset, .unset, .unset, .unset, .unset, .unset, .unset] [] := by first | (simp [entryFrame, mkF, argsToLocals, Value.category, maxLocals]; done) | rfl
def f0_v26 (p1 : Int32) : Nat → Int32 := (ownU (fun _ => 0) ((0 : Int32)).toNatClampNeg (p1 &&& (3 : Int32)))
def f0_v31 (p1 : Int32) : Nat → Int32 := (ownU (f0_v26 p1) ((1 : Int32)).toNatClampNeg ((p1 >>> ((2 : Int32) &&& 31)) &&& (3 : Int32)))
def f0_v36 (p1 : Int32) : Nat → Int32 := (ownU (f0_v31 p1) ((2 : Int32)).toNatClampNeg ((p1 >>> ((4 : Int32) &&& 31)) &&& (3 : Int32)))
def f0_v45 (q2 : Int64) : Nat → Int64 := (ownUL (fun _ => 0) ((0 : Int32)).toNatClampNeg q2)
def f0_v49 (q2 : Int64) (q3 : Int64) : Nat → Int64 := (ownUL (f0_v45 q2) ((1 : Int32)).toNatClampNeg q3)
def f0_v54 (q2 : Int64) (q3 : Int64) (q4 : Int64) : Nat → Int64 := (ownUL (f0_v49 q2 q3) ((2 : Int32)).toNatClampNeg q4)
def f0_s0_99 (p1 : Int32) (q2 : Int64) (q3 : Int64) (q4 : Int64) : Int32 := (if (f9 (0 : Int32) (f1_x0n (4 : Int32) (3 : Int32) (f0_v36 p1) (3 : Int32) (f0_v54 q2 q3 q4)) (f1_x0c (4 : Int32) (3 : Int32) (f0_v36 p1) (3 : Int32) (f0_v54 q2 q3 q4)) (f1_rn (4 : Int32) (3 : Int32) (f0_v36 p1) (3 : Int32) (f0_v54 q2 q3 q4)) (f1_rf (4 : Int32) (3 : Int32) (f0_v36 p1) (3 : Int32) (f0_v54 q2 q3 q4))) = (f10 (0 : Int32) (p1 &&& (3 : Int32)) ((p1 >>> ((2 : Int32) &&& 31)) &&& (3 : Int32)) ((p1 >>> ((4 : Int32) &&& 31)) &&& (3 : Int32)) q2 q3 q4) then (1 : Int32) else (0 : Int32))
def f0_s0_134 (p1 : Int32) (q2 : Int64) (q3 : Int64) (q4 : Int64) : Int32 := (if (f0_s0_99 p1 q2 q3 q4) = (0 : Int32) then (0 : Int32) else (if (f9 (1 : Int32) (f1_x0n (4 : Int32) (3 : Int32) (f0_v36 p1) (3 : Int32) (f0_v54 q2 q3 q4)) (f1_x0c (4 : Int32) (3 : Int32) (f0_v36 p1) (3 : Int32) (f0_v54 q2 q3 q4)) (f1_rn (4 : Int32) (3 : Int32) (f0_v36 p1) (3 : Int32) (f0_v54 q2 q3 q4)) (f1_rf (4 : Int32) (3 : Int32) (f0_v36 p1) (3 : Int32) (f0_v54 q2 q3 q4))) = (f10 (1 : Int32) (p1 &&& (3 : Int32)) ((p1 >>> ((2 : Int32) &&& 31)) &&& (3 : Int32)) ((p1 >>> ((4 : Int32) &&& 31)) &&& (3 : Int32)) q2 q3 q4) then (1 : Int32) else (0 : Int32)))
def f0_s0_169 (p1 : Int32) (q2 : Int64) (q3 : Int64) (q4 : Int64) : Int32 := (if (f0_s0_134 p1 q2 q3 q4) = (0 : Int32) then (0 : Int32) else (if (f9 (2 : Int32) (f1_x0n (4 : Int32) (3 : Int32) (f0_v36 p1) (3 : Int32) (f0_v54 q2 q3 q4)) (f1_x0c (4 : Int32) (3 : Int32) (f0_v36 p1) (3 : Int32) (f0_v54 q2 q3 q4)) (f1_rn (4 : Int32) (3 : Int32) (f0_v36 p1) (3 : Int32) (f0_v54 q2 q3 q4)) (f1_rf (4 : Int32) (3 : Int32) (f0_v36 p1) (3 : Int32) (f0_v54 q2 q3 q4))) = (f10 (2 : Int32) (p1 &&& (3 : Int32)) ((p1 >>> ((2 : Int32) &&& 31)) &&& (3 : Int32)) ((p1 >>> ((4 : Int32) &&& 31)) &&& (3 : Int32)) q2 q3 q4) then (1 : Int32) else (0 : Int32)))
def f0_s0_204 (p1 : Int32) (q2 : Int64) (q3 : Int64) (q4 : Int64) : Int32 := (if (f0_s0_169 p1 q2 q3 q4) = (0 : Int32) then (0 : Int32) else (if (f9 (3 : Int32) (f1_x0n (4 : Int32) (3 : Int32) (f0_v36 p1) (3 : Int32) (f0_v54 q2 q3 q4)) (f1_x0c (4 : Int32) (3 : Int32) (f0_v36 p1) (3 : Int32) (f0_v54 q2 q3 q4)) (f1_rn (4 : Int32) (3 : Int32) (f0_v36 p1) (3 : Int32) (f0_v54 q2 q3 q4)) (f1_rf (4 : Int32) (3 : Int32) (f0_v36 p1) (3 : Int32) (f0_v54 q2 q3 q4))) = (f10 (3 : Int32) (p1 &&& (3 : Int32)) ((p1 >>> ((2 : Int32) &&& 31)) &&& (3 : Int32)) ((p1 >>> ((4 : Int32) &&& 31)) &&& (3 : Int32)) q2 q3 q4) then (1 : Int32) else (0 : Int32)))
theorem own_hd (p1 : Int32) : ∀ i, 0 ≤ (f0_v36 p1 i).toInt ∧ (f0_v36 p1 i).toInt < 4 := by
  intro i
  have m : ∀ x : Int32, 0 ≤ (x &&& 3).toInt ∧ (x &&& 3).toInt < 4 := fun x => by
    have a := c_mask x 3 2 (by decide) rfl
    omega
  unfold f0_v36 f0_v31 f0_v26 ownU
  split
  · exact m _
  · split
    · exact m _
    · split
      · exact m _
      · show 0 ≤ (0 : Int32).toInt ∧ (0 : Int32).toInt < 4; decide
theorem own_JL (p1 : Int32) (q2 q3 q4 : Int64) : own_J (f1_x0c 4 3 (f0_v36 p1) 3 (f0_v54 q2 q3 q4)) (f1_rn 4 3 (f0_v36 p1) 3 (f0_v54 q2 q3 q4)) (f1_rf 4 3 (f0_v36 p1) 3 (f0_v54 q2 q3 q4)) 3 := own_Js 2 3 3 4 (f0_v36 p1) _ _ (f0_v54 q2 q3 q4) _ (by decide) (own_hd p1) (own_J2 (own_hd p1))
def f0 (p1 : Int32) (q2 : Int64) (q3 : Int64) (q4 : Int64) : Int32 := (nar .boolean (f0_s0_204 p1 q2 q3 q4))
def Q0 (Z : State) (p1 : Int32) (q2 : Int64) (q3 : Int64) (q4 : Int64) (h0 : Heap) (n0 : Nat) (v : Option Value) (h : Heap) (L : List Loc) : Prop := v = some (.int (f0 p1 q2 q3 q4)) ∧ Fr n0 L ∧ True
set_option maxRecDepth 65536 in
set_option maxHeartbeats 40000000 in
theorem rm0 (l : Launch) (Z : State) (a0 : Array Value) (hw : ∀ d ∈ tables_1, d.before a0 Z = true) (ws : List Jvm.Cond) (p1 : Int32) (q2 : Int64) (q3 : Int64) (q4 : Int64) (h0 : Heap) (n0 : Nat) (Z0 : n0 ≤ h0.size) :
    MetFree l x (head1 (Jvm.Cond.code x code maxLocals ret :: ws) room_1) (fun a U => a = #[(.int p1), (.long q2), (.long q3), (.long q4)] ∧ Z.Warmed39 U.vm ∧ U.heap = h0) (fun _ _ _ _ _ => True) (fun _ U o U' => ∃ v L, o = .returned v ∧ Q0 Z p1 q2 q3 q4 h0 n0 v U'.heap L ∧ FrameEnd U o U' L room_1.cells room_1.slots) := by
  refine MetFree.of_bodySF (plainFor_of_name pn_2) hisR ?_
  intro p e s m args below meth c s₁ Bd hml0 hP hK
  obtain ⟨rfl, hZ, hh⟩ := hP
  have hx := Bd.exec
  have hby := Bd.bytes
  have hml : c.maxLocals = 14 := hml0
  have hown : s.vm.findClass "com/example/podflow/podflow/simulation/ArrivalsFirstPinLaw" = some m.cls := findClass_of_methodNamed Bd.named
  have hnm := (name_of_methodNamed Bd.named Bd.method).1
  have X0 : Stand p l e room_1 s m #[(.int p1), (.long q2), (.long q3), (.long q4)] below meth c s₁ [] 0 0 := Stand.of_body Bd
  have e0 : s₁.heap = h0 := by rw [← hh, Bd.state]; rfl
  have N0 := Fr.nil n0
  have pre0 : ∀ t, Steps p.tables e below (s₁.setTop (mkF m 0 #[.val (.int p1), .val (.long q2), .second, .val (.long q3), .second, .val (.long q4), .second, .unset, .unset, .unset, .unset, .unset, .unset, .unset] [])) t → Steps p.tables e below (s₁.setTop (entryFrame m #[(.int p1), (.long q2), (.long q3), (.long q4)] maxLocals)) t := fun t k => castTop (ef_0 m p1 q2 q3 q4) k
  obtain ⟨T5, h5, k5, X5, e5, E5, A5, st5⟩ := newP X0 hx hZ (hw _ (List.mem_of_getElem? (i := 0) rfl)) e0 (g := (mkF m 20 #[.val (.int p1), .val (.long q2), .second, .val (.long q3), .second, .val (.long q4), .second, .val (.int (p1 &&& (3 : Int32))), .val (.int ((p1 >>> ((2 : Int32) &&& 31)) &&& (3 : Int32))), .val (.int ((p1 >>> ((4 : Int32) &&& 31)) &&& (3 : Int32))), .unset, .unset, .unset, .unset] [(.int (3 : Int32))])) rfl (hb hby at_20) rfl (by decide) (cap := 3) (by decide) (by decide) (by decide) (by decide)
  obtain ⟨b5, g5⟩ : ∃ z, z = h0.size := ⟨_, rfl⟩
  rw [← g5] at A5 st5
  have g_b5 : n0 ≤ b5 := Nat.le_trans Z0 (Nat.le_of_eq g5.symm)
  have c6 : n0 ≤ h5.size := Nat.le_trans Z0 E5.1
  have c7 : IAr Z h5 b5 .int (3 : Int32) (fun _ => 0) := IAr.new A5 (by decide) rfl
  obtain ⟨T8, h8, X8, e8, W8, V8, st8⟩ := sI X5 hx hZ e5 c7 (j := (0 : Int32)) ⟨by decide, by first | decide | assumption⟩ (g := (mkF m 26 #[.val (.int p1), .val (.long q2), .second, .val (.long q3), .second, .val (.long q4), .second, .val (.int (p1 &&& (3 : Int32))), .val (.int ((p1 >>> ((2 : Int32) &&& 31)) &&& (3 : Int32))), .val (.int ((p1 >>> ((4 : Int32) &&& 31)) &&& (3 : Int32))), .unset, .unset, .unset, .unset] [(.int (p1 &&& (3 : Int32))), (.int (0 : Int32)), (.ref b5), (.ref b5)])) rfl rfl (hb hby at_26)
  have N8 := Fr.snoc X8 N0 g_b5
  have c9 : n0 ≤ h8.size := Nat.le_trans c6 (Keep.of_wr W8).1
  have c10 : IAr Z h8 b5 .int (3 : Int32) (f0_v26 p1) := V8
  obtain ⟨T11, h11, X11, e11, W11, V11, st11⟩ := sI X8 hx hZ e8 c10 (j := (1 : Int32)) ⟨by decide, by first | decide | assumption⟩ (g := (mkF m 31 #[.val (.int p1), .val (.long q2), .second, .val (.long q3), .second, .val (.long q4), .second, .val (.int (p1 &&& (3 : Int32))), .val (.int ((p1 >>> ((2 : Int32) &&& 31)) &&& (3 : Int32))), .val (.int ((p1 >>> ((4 : Int32) &&& 31)) &&& (3 : Int32))), .unset, .unset, .unset, .unset] [(.int ((p1 >>> ((2 : Int32) &&& 31)) &&& (3 : Int32))), (.int (1 : Int32)), (.ref b5), (.ref b5)])) rfl rfl (hb hby at_31)
  have N11 := Fr.snoc X11 N8 g_b5
  have c12 : n0 ≤ h11.size := Nat.le_trans c9 (Keep.of_wr W11).1
  have c13 : IAr Z h11 b5 .int (3 : Int32) (f0_v31 p1) := V11
  obtain ⟨T14, h14, X14, e14, W14, V14, st14⟩ := sI X11 hx hZ e11 c13 (j := (2 : Int32)) ⟨by decide, by first | decide | assumption⟩ (g := (mkF m 36 #[.val (.int p1), .val (.long q2), .second, .val (.long q3), .second, .val (.long q4), .second, .val (.int (p1 &&& (3 : Int32))), .val (.int ((p1 >>> ((2 : Int32) &&& 31)) &&& (3 : Int32))), .val (.int ((p1 >>> ((4 : Int32) &&& 31)) &&& (3 : Int32))), .unset, .unset, .unset, .unset] [(.int ((p1 >>> ((4 : Int32) &&& 31)) &&& (3 : Int32))), (.int (2 : Int32)), (.ref b5), (.ref b5)])) rfl rfl (hb hby at_36)
  have N14 := Fr.snoc X14 N11 g_b5
  have c15 : n0 ≤ h14.size := Nat.le_trans c12 (Keep.of_wr W14).1
  have c16 : IAr Z h14 b5 .int (3 : Int32) (f0_v36 p1) := V14
  obtain ⟨T17, h17, k17, X17, e17, E17, A17, st17⟩ := newP X14 hx hZ (hw _ (List.mem_of_getElem? (i := 1) rfl)) e14 (g := (mkF m 40 #[.val (.int p1), .val (.long q2), .second, .val (.long q3), .second, .val (.long q4), .second, .val (.int (p1 &&& (3 : Int32))), .val (.int ((p1 >>> ((2 : Int32) &&& 31)) &&& (3 : Int32))), .val (.int ((p1 >>> ((4 : Int32) &&& 31)) &&& (3 : Int32))), .val (.ref b5), .unset, .unset, .unset] [(.int (3 : Int32))])) rfl (hb hby at_40) rfl (by decide) (cap := 3) (by decide) (by decide) (by decide) (by decide)
  obtain ⟨b17, g17⟩ : ∃ z, z = h14.size := ⟨_, rfl⟩
  rw [← g17] at A17 st17
  have ne_b5_b17 : b5 ≠ b17 := Nat.ne_of_lt (Nat.lt_of_lt_of_le c16.lt (Nat.le_of_eq g17.symm))
  have g_b17 : n0 ≤ b17 := Nat.le_trans c15 (Nat.le_of_eq g17.symm)
  have c18 : n0 ≤ h17.size := Nat.le_trans c15 E17.1
  have c19 : IAr Z h17 b5 .int (3 : Int32) (f0_v36 p1) := c16.ext E17
  have c20 : LAr Z h17 b17  (3 : Int32) (fun _ => 0) := LAr.new A17 (by decide)
  obtain ⟨T21, h21, X21, e21, W21, V21, st21⟩ := sJ X17 hx hZ e17 c20 (j := (0 : Int32)) ⟨by decide, by first | decide | assumption⟩ (g := (mkF m 45 #[.val (.int p1), .val (.long q2), .second, .val (.long q3), .second, .val (.long q4), .second, .val (.int (p1 &&& (3 : Int32))), .val (.int ((p1 >>> ((2 : Int32) &&& 31)) &&& (3 : Int32))), .val (.int ((p1 >>> ((4 : Int32) &&& 31)) &&& (3 : Int32))), .val (.ref b5), .unset, .unset, .unset] [(.long q2), (.int (0 : Int32)), (.ref b17), (.ref b17)])) rfl rfl (hb hby at_45)
  have N21 := Fr.snoc X21 N14 g_b17
  have c22 : n0 ≤ h21.size := Nat.le_trans c18 (Keep.of_wr W21).1
  have c23 : IAr Z h21 b5 .int (3 : Int32) (f0_v36 p1) := c19.other W21 ne_b5_b17
  have c24 : LAr Z h21 b17  (3 : Int32) (f0_v45 q2) := V21
  obtain ⟨T25, h25, X25, e25, W25, V25, st25⟩ := sJ X21 hx hZ e21 c24 (j := (1 : Int32)) ⟨by decide, by first | decide | assumption⟩ (g := (mkF m 49 #[.val (.int p1), .val (.long q2), .second, .val (.long q3), .second, .val (.long q4), .second, .val (.int (p1 &&& (3 : Int32))), .val (.int ((p1 >>> ((2 : Int32) &&& 31)) &&& (3 : Int32))), .val (.int ((p1 >>> ((4 : Int32) &&& 31)) &&& (3 : Int32))), .val (.ref b5), .unset, .unset, .unset] [(.long q3), (.int (1 : Int32)), (.ref b17), (.ref b17)])) rfl rfl (hb hby at_49)
  have N25 := Fr.snoc X25 N21 g_b17
  have c26 : n0 ≤ h25.size := Nat.le_trans c22 (Keep.of_wr W25).1
  have c27 : IAr Z h25 b5 .int (3 : Int32) (f0_v36 p1) := c23.other W25 ne_b5_b17
  have c28 : LAr Z h25 b17  (3 : Int32) (f0_v49 q2 q3) := V25
  obtain ⟨T29, h29, X29, e29, W29, V29, st29⟩ := sJ X25 hx hZ e25 c28 (j := (2 : Int32)) ⟨by decide, by first | decide | assumption⟩ (g := (mkF m 54 #[.val (.int p1), .val (.long q2), .second, .val (.long q3), .second, .val (.long q4), .second, .val (.int (p1 &&& (3 : Int32))), .val (.int ((p1 >>> ((2 : Int32) &&& 31)) &&& (3 : Int32))), .val (.int ((p1 >>> ((4 : Int32) &&& 31)) &&& (3 : Int32))), .val (.ref b5), .unset, .unset, .unset] [(.long q4), (.int (2 : Int32)), (.ref b17), (.ref b17)])) rfl rfl (hb hby at_54)
  have N29 := Fr.snoc X29 N25 g_b17
  have c30 : n0 ≤ h29.size := Nat.le_trans c26 (Keep.of_wr W29).1
  have c31 : IAr Z h29 b5 .int (3 : Int32) (f0_v36 p1) := c27.other W29 ne_b5_b17
  have c32 : LAr Z h29 b17  (3 : Int32) (f0_v54 q2 q3 q4) := V29
  obtain ⟨T33, h33, X33, e33, E33, A33, D33, -, st33⟩ := newO X29 hx hZ hown (hw _ (List.mem_of_getElem? (i := 2) rfl)) (hw _ (List.mem_of_getElem? (i := 3) rfl)) (hw _ (List.mem_of_getElem? (i := 4) rfl)) e29 (g := (mkF m 57 #[.val (.int p1), .val (.long q2), .second, .val (.long q3), .second, .val (.long q4), .second, .val (.int (p1 &&& (3 : Int32))), .val (.int ((p1 >>> ((2 : Int32) &&& 31)) &&& (3 : Int32))), .val (.int ((p1 >>> ((4 : Int32) &&& 31)) &&& (3 : Int32))), .val (.ref b5), .val (.ref b17), .unset, .unset] [])) rfl (hb hby at_57) (by decide) (by decide)
  obtain ⟨b33, g33⟩ : ∃ z, z = h29.size := ⟨_, rfl⟩
  rw [← g33] at A33 D33 st33
  have ne_b5_b33 : b5 ≠ b33 := Nat.ne_of_lt (Nat.lt_of_lt_of_le c31.lt (Nat.le_of_eq g33.symm))
  have ne_b17_b33 : b17 ≠ b33 := Nat.ne_of_lt (Nat.lt_of_lt_of_le c32.lt (Nat.le_of_eq g33.symm))
  have g_b33 : n0 ≤ b33 := Nat.le_trans c30 (Nat.le_of_eq g33.symm)
  have c34 : n0 ≤ h33.size := Nat.le_trans c30 E33.1
  have c35 : IAr Z h33 b5 .int (3 : Int32) (f0_v36 p1) := c31.ext E33
  have c36 : LAr Z h33 b17  (3 : Int32) (f0_v54 q2 q3 q4) := c32.ext E33
  have c37 : Fld Z h33 b33 "com/example/podflow/podflow/simulation/Arrivals" "destination" "[I" .null := D33 (Or.inr (hw _ (List.mem_of_getElem? (i := 17) rfl))) (ty := (.array .int)) (by decide)
  have c38 : Fld Z h33 b33 "com/example/podflow/podflow/simulation/Arrivals" "arrival" "[J" .null := D33 (Or.inr (hw _ (List.mem_of_getElem? (i := 19) rfl))) (ty := (.array .long)) (by decide)
  have c39 : Fld Z h33 b33 "com/example/podflow/podflow/simulation/Arrivals" "rows" "[[I" .null := D33 (Or.inr (hw _ (List.mem_of_getElem? (i := 21) rfl))) (ty := (.array (.array .int))) (by decide)
  have c40 : Fld Z h33 b33 "com/example/podflow/podflow/simulation/Arrivals" "sizes" "[I" .null := D33 (Or.inr (hw _ (List.mem_of_getElem? (i := 23) rfl))) (ty := (.array .int)) (by decide)
  obtain ⟨_, _, ⟨T41, L41, k41, n41⟩, -, X41, ⟨Lc41, hQ41, l41, y41, z41⟩, st41⟩ := X33.specialBack hx (y := (⟨"com/example/podflow/podflow/simulation/Arrivals", "<init>", "(I[I[J)V"⟩ : MethodName)) rfl hown (mvT hZ (hw _ (List.mem_of_getElem? (i := 5) rfl))) (mvT hZ (hw _ (List.mem_of_getElem? (i := 6) rfl))) (mvT hZ (hw _ (List.mem_of_getElem? (i := 7) rfl))) (by decide) (backOf (W := 1) (rm1 l Z a0 hw [] b33 (4 : Int32) b5 b17 (3 : Int32) (f0_v36 p1) (3 : Int32) (f0_v54 q2 q3 q4) h33 n0 c34 A33 g_b33 c37 c38 c39 c40 c35 c36 (Ne.symm ne_b5_b33) (Ne.symm ne_b17_b33) ne_b5_b17 rfl rfl rfl (own_hd p1)) hZ (hw _ (List.mem_of_getElem? (i := 7) rfl)) (hw _ (List.mem_of_getElem? (i := 4) rfl)) (by decide) (by decide)) (g := (mkF m 66 #[.val (.int p1), .val (.long q2), .second, .val (.long q3), .second, .val (.long q4), .second, .val (.int (p1 &&& (3 : Int32))), .val (.int ((p1 >>> ((2 : Int32) &&& 31)) &&& (3 : Int32))), .val (.int ((p1 >>> ((4 : Int32) &&& 31)) &&& (3 : Int32))), .val (.ref b5), .val (.ref b17), .unset, .unset] [(.ref b17), (.ref b5), (.int (4 : Int32)), (.ref b33), (.ref b33)])) rfl (by rw [hml]; rfl) (Steps.refl _) (a := b33) (argsL := [(.int (4 : Int32)), (.ref b5), (.ref b17)]) (rest := [(.ref b33)]) (lenOf pd_5 rfl) rfl (by show 2 * 0 + _ ≤ _; exact Nat.le_of_eq rfl) (hb hby at_66) (fun _ _ => ⟨rfl, e33, (by decide : 3 + 9 ≤ _), (by decide : 10 + 20 ≤ _)⟩)
  dsimp only [Pt.U, Pt.locs, Pt.cells, Pt.slots] at X41 l41 y41 z41 st41 hQ41
  subst l41 y41 z41
  obtain ⟨cO41, r41_0, r41_1, rfl, N41q, K41, o41_0, o41_1, oO41, zz41_0, va41_0, vf41_0, vf41_1⟩ := hQ41
  have N41 := Fr.app N29 N41q
  have ne_b5_r41_0 : b5 ≠ r41_0 := Nat.ne_of_lt (Nat.lt_of_lt_of_le c35.lt zz41_0)
  have ne_b17_r41_0 : b17 ≠ r41_0 := Nat.ne_of_lt (Nat.lt_of_lt_of_le c36.lt zz41_0)
  have ne_b33_r41_0 : b33 ≠ r41_0 := Nat.ne_of_lt (Nat.lt_of_lt_of_le A33.lt zz41_0)
  have g_r41_0 : n0 ≤ r41_0 := Nat.le_trans c34 zz41_0
  have c42 : n0 ≤ T41.heap.size := Nat.le_trans c34 K41.1
  have c43 : IAr Z T41.heap b5 .int (3 : Int32) (f0_v36 p1) := c35.keep K41 (ninS ne_b5_b33 nin0)
  have c44 : LAr Z T41.heap b17  (3 : Int32) (f0_v54 q2 q3 q4) := c36.keep K41 (ninS ne_b17_b33 nin0)
  have c45 : Exa Z T41.heap b33 "com/example/podflow/podflow/simulation/Arrivals" := A33.keep K41
  have c46 : Fld Z T41.heap b33 "com/example/podflow/podflow/simulation/Arrivals" "destination" "[I" (.ref b5) := o41_0
  have c47 : Fld Z T41.heap b33 "com/example/podflow/podflow/simulation/Arrivals" "arrival" "[J" (.ref b17) := o41_1
  have c48 : Fld Z T41.heap b33 "com/example/podflow/podflow/simulation/Arrivals" "rows" "[[I" (.ref r41_1) := vf41_1
  have c49 : Fld Z T41.heap b33 "com/example/podflow/podflow/simulation/Arrivals" "sizes" "[I" (.ref r41_0) := vf41_0
  obtain ⟨cq50, kq50, q50a, q50b, q50c⟩ := isOf hZ rfl c45
  obtain ⟨_, _, ⟨T50, L50, k50, n50⟩, -, X50, ⟨Lc50, hQ50, l50, y50, z50⟩, st50⟩ := X41.virtualBack hx (y := (⟨"com/example/podflow/podflow/simulation/Arrivals", "first", "(I)I"⟩ : MethodName)) (z := (⟨"com/example/podflow/podflow/simulation/Arrivals", "first", "(I)I"⟩ : MethodName)) hown (mvT hZ (hw _ (List.mem_of_getElem? (i := 49) rfl))) (mvT hZ (hw _ (List.mem_of_getElem? (i := 50) rfl))) (notFace_of_selects (args := #[]) (mvT hZ (hw _ (List.mem_of_getElem? (i := 52) rfl)))) (mvT hZ (hw _ (List.mem_of_getElem? (i := 52) rfl))) (mvT hZ (hw _ (List.mem_of_getElem? (i := 51) rfl))) (by decide) (backOf (W := 0) (rm9 l Z a0 hw [] b33 (0 : Int32) b5 b17 r41_1 r41_0 (f1_x0n (4 : Int32) (3 : Int32) (f0_v36 p1) (3 : Int32) (f0_v54 q2 q3 q4)) (f1_x0c (4 : Int32) (3 : Int32) (f0_v36 p1) (3 : Int32) (f0_v54 q2 q3 q4)) cO41 (f1_rn (4 : Int32) (3 : Int32) (f0_v36 p1) (3 : Int32) (f0_v54 q2 q3 q4)) (f1_rf (4 : Int32) (3 : Int32) (f0_v36 p1) (3 : Int32) (f0_v54 q2 q3 q4)) h33.size T41.heap n0 c42 c46 c47 c48 c49 va41_0 oO41 c34 (by decide) rfl (own_JL p1 q2 q3 q4)) hZ (hw _ (List.mem_of_getElem? (i := 53) rfl)) (hw _ (List.mem_of_getElem? (i := 4) rfl)) (by decide) (by decide)) q50a q50c (g := (mkF m 74 #[.val (.int p1), .val (.long q2), .second, .val (.long q3), .second, .val (.long q4), .second, .val (.int (p1 &&& (3 : Int32))), .val (.int ((p1 >>> ((2 : Int32) &&& 31)) &&& (3 : Int32))), .val (.int ((p1 >>> ((4 : Int32) &&& 31)) &&& (3 : Int32))), .val (.ref b5), .val (.ref b17), .val (.ref b33), .unset] [(.int (0 : Int32)), (.ref b33)])) rfl (by rw [hml]; rfl) (Steps.refl _) (argsL := [(.int (0 : Int32))]) (rest := []) (lenOf pd_6 rfl) rfl (by show 2 * 0 + _ ≤ _; exact Nat.le_of_eq rfl) (hb hby at_74) (fun _ _ => ⟨rfl, rfl, (by decide : 12 + 0 ≤ _), (by decide : 30 + 0 ≤ _)⟩)
  dsimp only [Pt.U, Pt.locs, Pt.cells, Pt.slots] at X50 l50 y50 z50 st50 hQ50
  subst l50 y50 z50
  obtain ⟨rfl, N50q, e50⟩ := hQ50
  have N50 := Fr.app N41 N50q
  obtain ⟨_, _, ⟨T51, L51, k51, n51⟩, -, X51, ⟨Lc51, hQ51, l51, y51, z51⟩, st51⟩ := Jvm.LawKit.callS X50 hx (y := (⟨"com/example/podflow/podflow/simulation/ArrivalsFirstPinLaw", "ref", "(IIIIJJJ)I"⟩ : MethodName)) hown (mvT hZ (hw _ (List.mem_of_getElem? (i := 54) rfl))) (mvT hZ (hw _ (List.mem_of_getElem? (i := 55) rfl))) (mvT hZ (hw _ (List.mem_of_getElem? (i := 56) rfl))) (mvT hZ (hw _ (List.mem_of_getElem? (i := 57) rfl))) (by decide) (backOf (W := 1) (rm10 l Z a0 hw [] (0 : Int32) (p1 &&& (3 : Int32)) ((p1 >>> ((2 : Int32) &&& 31)) &&& (3 : Int32)) ((p1 >>> ((4 : Int32) &&& 31)) &&& (3 : Int32)) q2 q3 q4 T41.heap n0 c42 ) hZ (hw _ (List.mem_of_getElem? (i := 57) rfl)) (hw _ (List.mem_of_getElem? (i := 56) rfl)) (by decide) (by decide)) (g := (mkF m 88 #[.val (.int p1), .val (.long q2), .second, .val (.long q3), .second, .val (.long q4), .second, .val (.int (p1 &&& (3 : Int32))), .val (.int ((p1 >>> ((2 : Int32) &&& 31)) &&& (3 : Int32))), .val (.int ((p1 >>> ((4 : Int32) &&& 31)) &&& (3 : Int32))), .val (.ref b5), .val (.ref b17), .val (.ref b33), .unset] [(.long q4), (.long q3), (.long q2), (.int ((p1 >>> ((4 : Int32) &&& 31)) &&& (3 : Int32))), (.int ((p1 >>> ((2 : Int32) &&& 31)) &&& (3 : Int32))), (.int (p1 &&& (3 : Int32))), (.int (0 : Int32)), (.int (f9 (0 : Int32) (f1_x0n (4 : Int32) (3 : Int32) (f0_v36 p1) (3 : Int32) (f0_v54 q2 q3 q4)) (f1_x0c (4 : Int32) (3 : Int32) (f0_v36 p1) (3 : Int32) (f0_v54 q2 q3 q4)) (f1_rn (4 : Int32) (3 : Int32) (f0_v36 p1) (3 : Int32) (f0_v54 q2 q3 q4)) (f1_rf (4 : Int32) (3 : Int32) (f0_v36 p1) (3 : Int32) (f0_v54 q2 q3 q4))))])) rfl (by rw [hml]; rfl) (argsL := [(.int (0 : Int32)), (.int (p1 &&& (3 : Int32))), (.int ((p1 >>> ((2 : Int32) &&& 31)) &&& (3 : Int32))), (.int ((p1 >>> ((4 : Int32) &&& 31)) &&& (3 : Int32))), (.long q2), (.long q3), (.long q4)]) (rest := [(.int (f9 (0 : Int32) (f1_x0n (4 : Int32) (3 : Int32) (f0_v36 p1) (3 : Int32) (f0_v54 q2 q3 q4)) (f1_x0c (4 : Int32) (3 : Int32) (f0_v36 p1) (3 : Int32) (f0_v54 q2 q3 q4)) (f1_rn (4 : Int32) (3 : Int32) (f0_v36 p1) (3 : Int32) (f0_v54 q2 q3 q4)) (f1_rf (4 : Int32) (3 : Int32) (f0_v36 p1) (3 : Int32) (f0_v54 q2 q3 q4))))]) (lenOf pd_7 rfl) rfl (by show 2 * 0 + _ ≤ _; exact Nat.le_of_eq rfl) (hb hby at_88) (fun _ _ => ⟨rfl, e50, (by decide : 12 + 0 ≤ _), (by decide : 30 + 0 ≤ _)⟩)
  dsimp only [Pt.U, Pt.locs, Pt.cells, Pt.slots] at X51 l51 y51 z51 st51 hQ51
  subst l51 y51 z51
  obtain ⟨rfl, N51q, e51⟩ := hQ51
  have N51 := Fr.app N50 N51q
  have pre1 : ∀ t, Steps p.tables e below (T51.setTop (mkF m 91 #[.val (.int p1), .val (.long q2), .second, .val (.long q3), .second, .val (.long q4), .second, .val (.int (p1 &&& (3 : Int32))), .val (.int ((p1 >>> ((2 : Int32) &&& 31)) &&& (3 : Int32))), .val (.int ((p1 >>> ((4 : Int32) &&& 31)) &&& (3 : Int32))), .val (.ref b5), .val (.ref b17), .val (.ref b33), .unset] [(.int (f10 (0 : Int32) (p1 &&& (3 : Int32)) ((p1 >>> ((2 : Int32) &&& 31)) &&& (3 : Int32)) ((p1 >>> ((4 : Int32) &&& 31)) &&& (3 : Int32)) q2 q3 q4)), (.int (f9 (0 : Int32) (f1_x0n (4 : Int32) (3 : Int32) (f0_v36 p1) (3 : Int32) (f0_v54 q2 q3 q4)) (f1_x0c (4 : Int32) (3 : Int32) (f0_v36 p1) (3 : Int32) (f0_v54 q2 q3 q4)) (f1_rn (4 : Int32) (3 : Int32) (f0_v36 p1) (3 : Int32) (f0_v54 q2 q3 q4)) (f1_rf (4 : Int32) (3 : Int32) (f0_v36 p1) (3 : Int32) (f0_v54 q2 q3 q4))))])) t → Steps p.tables e below (s₁.setTop (entryFrame m #[(.int p1), (.long q2), (.long q3), (.long q4)] maxLocals)) t := by
    intro t k
    refine pre0 t ?_
    show Steps p.tables e below (s₁.setTop (mkF m 0 #[.val (.int p1), .val (.long q2), .second, .val (.long q3), .second, .val (.long q4), .second, .unset, .unset, .unset, .unset, .unset, .unset, .unset] [])) _
    refine XS.iloadN X0.here hx rfl (hb hby at_0) rfl ?_
    show Steps p.tables e below (s₁.setTop (mkF m 1 #[.val (.int p1), .val (.long q2), .second, .val (.long q3), .second, .val (.long q4), .second, .unset, .unset, .unset, .unset, .unset, .unset, .unset] [(.int p1)])) _
    refine XS.iconst X0.here hx rfl (hb hby at_1) ?_
    show Steps p.tables e below (s₁.setTop (mkF m 2 #[.val (.int p1), .val (.long q2), .second, .val (.long q3), .second, .val (.long q4), .second, .unset, .unset, .unset, .unset, .unset, .unset, .unset] [(.int (3 : Int32)), (.int p1)])) _
    refine XS.iand X0.here hx rfl (hb hby at_2) rfl ?_
    show Steps p.tables e below (s₁.setTop (mkF m 3 #[.val (.int p1), .val (.long q2), .second, .val (.long q3), .second, .val (.long q4), .second, .unset, .unset, .unset, .unset, .unset, .unset, .unset] [(.int (p1 &&& (3 : Int32)))])) _
    refine XS.istore X0.here hx rfl (hb hby at_3) rfl (l' := #[.val (.int p1), .val (.long q2), .second, .val (.long q3), .second, .val (.long q4), .second, .val (.int (p1 &&& (3 : Int32))), .unset, .unset, .unset, .unset, .unset, .unset]) rfl ?_
    show Steps p.tables e below (s₁.setTop (mkF m 5 #[.val (.int p1), .val (.long q2), .second, .val (.long q3), .second, .val (.long q4), .second, .val (.int (p1 &&& (3 : Int32))), .unset, .unset, .unset, .unset, .unset, .unset] [])) _
    refine XS.iloadN X0.here hx rfl (hb hby at_5) rfl ?_
    show Steps p.tables e below (s₁.setTop (mkF m 6 #[.val (.int p1), .val (.long q2), .second, .val (.long q3), .second, .val (.long q4), .second, .val (.int (p1 &&& (3 : Int32))), .unset, .unset, .unset, .unset, .unset, .unset] [(.int p1)])) _
    refine XS.iconst X0.here hx rfl (hb hby at_6) ?_
    show Steps p.tables e below (s₁.setTop (mkF m 7 #[.val (.int p1), .val (.long q2), .second, .val (.long q3), .second, .val (.long q4), .second, .val (.int (p1 &&& (3 : Int32))), .unset, .unset, .unset, .unset, .unset, .unset] [(.int (2 : Int32)), (.int p1)])) _
    refine XS.ishr X0.here hx rfl (hb hby at_7) rfl ?_
    show Steps p.tables e below (s₁.setTop (mkF m 8 #[.val (.int p1), .val (.long q2), .second, .val (.long q3), .second, .val (.long q4), .second, .val (.int (p1 &&& (3 : Int32))), .unset, .unset, .unset, .unset, .unset, .unset] [(.int (p1 >>> ((2 : Int32) &&& 31)))])) _
    refine XS.iconst X0.here hx rfl (hb hby at_8) ?_
    show Steps p.tables e below (s₁.setTop (mkF m 9 #[.val (.int p1), .val (.long q2), .second, .val (.long q3), .second, .val (.long q4), .second, .val (.int (p1 &&& (3 : Int32))), .unset, .unset, .unset, .unset, .unset, .unset] [(.int (3 : Int32)), (.int (p1 >>> ((2 : Int32) &&& 31)))])) _
    refine XS.iand X0.here hx rfl (hb hby at_9) rfl ?_
    show Steps p.tables e below (s₁.setTop (mkF m 10 #[.val (.int p1), .val (.long q2), .second, .val (.long q3), .second, .val (.long q4), .second, .val (.int (p1 &&& (3 : Int32))), .unset, .unset, .unset, .unset, .unset, .unset] [(.int ((p1 >>> ((2 : Int32) &&& 31)) &&& (3 : Int32)))])) _
    refine XS.istore X0.here hx rfl (hb hby at_10) rfl (l' := #[.val (.int p1), .val (.long q2), .second, .val (.long q3), .second, .val (.long q4), .second, .val (.int (p1 &&& (3 : Int32))), .val (.int ((p1 >>> ((2 : Int32) &&& 31)) &&& (3 : Int32))), .unset, .unset, .unset, .unset, .unset]) rfl ?_
    show Steps p.tables e below (s₁.setTop (mkF m 12 #[.val (.int p1), .val (.long q2), .second, .val (.long q3), .second, .val (.long q4), .second, .val (.int (p1 &&& (3 : Int32))), .val (.int ((p1 >>> ((2 : Int32) &&& 31)) &&& (3 : Int32))), .unset, .unset, .unset, .unset, .unset] [])) _
    refine XS.iloadN X0.here hx rfl (hb hby at_12) rfl ?_
    show Steps p.tables e below (s₁.setTop (mkF m 13 #[.val (.int p1), .val (.long q2), .second, .val (.long q3), .second, .val (.long q4), .second, .val (.int (p1 &&& (3 : Int32))), .val (.int ((p1 >>> ((2 : Int32) &&& 31)) &&& (3 : Int32))), .unset, .unset, .unset, .unset, .unset] [(.int p1)])) _
    refine XS.iconst X0.here hx rfl (hb hby at_13) ?_
    show Steps p.tables e below (s₁.setTop (mkF m 14 #[.val (.int p1), .val (.long q2), .second, .val (.long q3), .second, .val (.long q4), .second, .val (.int (p1 &&& (3 : Int32))), .val (.int ((p1 >>> ((2 : Int32) &&& 31)) &&& (3 : Int32))), .unset, .unset, .unset, .unset, .unset] [(.int (4 : Int32)), (.int p1)])) _
    refine XS.ishr X0.here hx rfl (hb hby at_14) rfl ?_
    show Steps p.tables e below (s₁.setTop (mkF m 15 #[.val (.int p1), .val (.long q2), .second, .val (.long q3), .second, .val (.long q4), .second, .val (.int (p1 &&& (3 : Int32))), .val (.int ((p1 >>> ((2 : Int32) &&& 31)) &&& (3 : Int32))), .unset, .unset, .unset, .unset, .unset] [(.int (p1 >>> ((4 : Int32) &&& 31)))])) _
    refine XS.iconst X0.here hx rfl (hb hby at_15) ?_
    show Steps p.tables e below (s₁.setTop (mkF m 16 #[.val (.int p1), .val (.long q2), .second, .val (.long q3), .second, .val (.long q4), .second, .val (.int (p1 &&& (3 : Int32))), .val (.int ((p1 >>> ((2 : Int32) &&& 31)) &&& (3 : Int32))), .unset, .unset, .unset, .unset, .unset] [(.int (3 : Int32)), (.int (p1 >>> ((4 : Int32) &&& 31)))])) _
    refine XS.iand X0.here hx rfl (hb hby at_16) rfl ?_
    show Steps p.tables e below (s₁.setTop (mkF m 17 #[.val (.int p1), .val (.long q2), .second, .val (.long q3), .second, .val (.long q4), .second, .val (.int (p1 &&& (3 : Int32))), .val (.int ((p1 >>> ((2 : Int32) &&& 31)) &&& (3 : Int32))), .unset, .unset, .unset, .unset, .unset] [(.int ((p1 >>> ((4 : Int32) &&& 31)) &&& (3 : Int32)))])) _
    refine XS.istore X0.here hx rfl (hb hby at_17) rfl (l' := #[.val (.int p1), .val (.long q2), .second, .val (.long q3), .second, .val (.long q4), .second, .val (.int (p1 &&& (3 : Int32))), .val (.int ((p1 >>> ((2 : Int32) &&& 31)) &&& (3 : Int32))), .val (.int ((p1 >>> ((4 : Int32) &&& 31)) &&& (3 : Int32))), .unset, .unset, .unset, .unset]) rfl ?_
    show Steps p.tables e below (s₁.setTop (mkF m 19 #[.val (.int p1), .val (.long q2), .second, .val (.long q3), .second, .val (.long q4), .second, .val (.int (p1 &&& (3 : Int32))), .val (.int ((p1 >>> ((2 : Int32) &&& 31)) &&& (3 : Int32))), .val (.int ((p1 >>> ((4 : Int32) &&& 31)) &&& (3 : Int32))), .unset, .unset, .unset, .unset] [])) _
    refine XS.iconst X0.here hx rfl (hb hby at_19) ?_
    show Steps p.tables e below (s₁.setTop (mkF m 20 #[.val (.int p1), .val (.long q2), .second, .val (.long q3), .second, .val (.long q4), .second, .val (.int (p1 &&& (3 : Int32))), .val (.int ((p1 >>> ((2 : Int32) &&& 31)) &&& (3 : Int32))), .val (.int ((p1 >>> ((4 : Int32) &&& 31)) &&& (3 : Int32))), .unset, .unset, .unset, .unset] [(.int (3 : Int32))])) _
    refine st5 _ ?_
    show Steps p.tables e below (T5.setTop (mkF m 22 #[.val (.int p1), .val (.long q2), .second, .val (.long q3), .second, .val (.long q4), .second, .val (.int (p1 &&& (3 : Int32))), .val (.int ((p1 >>> ((2 : Int32) &&& 31)) &&& (3 : Int32))), .val (.int ((p1 >>> ((4 : Int32) &&& 31)) &&& (3 : Int32))), .unset, .unset, .unset, .unset] [(.ref b5)])) _
    refine XS.dup X5.here hx rfl (hb hby at_22) rfl rfl ?_
    show Steps p.tables e below (T5.setTop (mkF m 23 #[.val (.int p1), .val (.long q2), .second, .val (.long q3), .second, .val (.long q4), .second, .val (.int (p1 &&& (3 : Int32))), .val (.int ((p1 >>> ((2 : Int32) &&& 31)) &&& (3 : Int32))), .val (.int ((p1 >>> ((4 : Int32) &&& 31)) &&& (3 : Int32))), .unset, .unset, .unset, .unset] [(.ref b5), (.ref b5)])) _
    refine XS.iconst X5.here hx rfl (hb hby at_23) ?_
    show Steps p.tables e below (T5.setTop (mkF m 24 #[.val (.int p1), .val (.long q2), .second, .val (.long q3), .second, .val (.long q4), .second, .val (.int (p1 &&& (3 : Int32))), .val (.int ((p1 >>> ((2 : Int32) &&& 31)) &&& (3 : Int32))), .val (.int ((p1 >>> ((4 : Int32) &&& 31)) &&& (3 : Int32))), .unset, .unset, .unset, .unset] [(.int (0 : Int32)), (.ref b5), (.ref b5)])) _
    refine XS.iload X5.here hx rfl (hb hby at_24) rfl ?_
    show Steps p.tables e below (T5.setTop (mkF m 26 #[.val (.int p1), .val (.long q2), .second, .val (.long q3), .second, .val (.long q4), .second, .val (.int (p1 &&& (3 : Int32))), .val (.int ((p1 >>> ((2 : Int32) &&& 31)) &&& (3 : Int32))), .val (.int ((p1 >>> ((4 : Int32) &&& 31)) &&& (3 : Int32))), .unset, .unset, .unset, .unset] [(.int (p1 &&& (3 : Int32))), (.int (0 : Int32)), (.ref b5), (.ref b5)])) _
    refine st8 _ ?_
    show Steps p.tables e below (T8.setTop (mkF m 27 #[.val (.int p1), .val (.long q2), .second, .val (.long q3), .second, .val (.long q4), .second, .val (.int (p1 &&& (3 : Int32))), .val (.int ((p1 >>> ((2 : Int32) &&& 31)) &&& (3 : Int32))), .val (.int ((p1 >>> ((4 : Int32) &&& 31)) &&& (3 : Int32))), .unset, .unset, .unset, .unset] [(.ref b5)])) _
    refine XS.dup X8.here hx rfl (hb hby at_27) rfl rfl ?_
    show Steps p.tables e below (T8.setTop (mkF m 28 #[.val (.int p1), .val (.long q2), .second, .val (.long q3), .second, .val (.long q4), .second, .val (.int (p1 &&& (3 : Int32))), .val (.int ((p1 >>> ((2 : Int32) &&& 31)) &&& (3 : Int32))), .val (.int ((p1 >>> ((4 : Int32) &&& 31)) &&& (3 : Int32))), .unset, .unset, .unset, .unset] [(.ref b5), (.ref b5)])) _
    refine XS.iconst X8.here hx rfl (hb hby at_28) ?_
    show Steps p.tables e below (T8.setTop (mkF m 29 #[.val (.int p1), .val (.long q2), .second, .val (.long q3), .second, .val (.long q4), .second, .val (.int (p1 &&& (3 : Int32))), .val (.int ((p1 >>> ((2 : Int32) &&& 31)) &&& (3 : Int32))), .val (.int ((p1 >>> ((4 : Int32) &&& 31)) &&& (3 : Int32))), .unset, .unset, .unset, .unset] [(.int (1 : Int32)), (.ref b5), (.ref b5)])) _
    refine XS.iload X8.here hx rfl (hb hby at_29) rfl ?_
    show Steps p.tables e below (T8.setTop (mkF m 31 #[.val (.int p1), .val (.long q2), .second, .val (.long q3), .second, .val (.long q4), .second, .val (.int (p1 &&& (3 : Int32))), .val (.int ((p1 >>> ((2 : Int32) &&& 31)) &&& (3 : Int32))), .val (.int ((p1 >>> ((4 : Int32) &&& 31)) &&& (3 : Int32))), .unset, .unset, .unset, .unset] [(.int ((p1 >>> ((2 : Int32) &&& 31)) &&& (3 : Int32))), (.int (1 : Int32)), (.ref b5), (.ref b5)])) _
    refine st11 _ ?_
    show Steps p.tables e below (T11.setTop (mkF m 32 #[.val (.int p1), .val (.long q2), .second, .val (.long q3), .second, .val (.long q4), .second, .val (.int (p1 &&& (3 : Int32))), .val (.int ((p1 >>> ((2 : Int32) &&& 31)) &&& (3 : Int32))), .val (.int ((p1 >>> ((4 : Int32) &&& 31)) &&& (3 : Int32))), .unset, .unset, .unset, .unset] [(.ref b5)])) _
    refine XS.dup X11.here hx rfl (hb hby at_32) rfl rfl ?_
    show Steps p.tables e below (T11.setTop (mkF m 33 #[.val (.int p1), .val (.long q2), .second, .val (.long q3), .second, .val (.long q4), .second, .val (.int (p1 &&& (3 : Int32))), .val (.int ((p1 >>> ((2 : Int32) &&& 31)) &&& (3 : Int32))), .val (.int ((p1 >>> ((4 : Int32) &&& 31)) &&& (3 : Int32))), .unset, .unset, .unset, .unset] [(.ref b5), (.ref b5)])) _
    refine XS.iconst X11.here hx rfl (hb hby at_33) ?_
    show Steps p.tables e below (T11.setTop (mkF m 34 #[.val (.int p1), .val (.long q2), .second, .val (.long q3), .second, .val (.long q4), .second, .val (.int (p1 &&& (3 : Int32))), .val (.int ((p1 >>> ((2 : Int32) &&& 31)) &&& (3 : Int32))), .val (.int ((p1 >>> ((4 : Int32) &&& 31)) &&& (3 : Int32))), .unset, .unset, .unset, .unset] [(.int (2 : Int32)), (.ref b5), (.ref b5)])) _
    refine XS.iload X11.here hx rfl (hb hby at_34) rfl ?_
    show Steps p.tables e below (T11.setTop (mkF m 36 #[.val (.int p1), .val (.long q2), .second, .val (.long q3), .second, .val (.long q4), .second, .val (.int (p1 &&& (3 : Int32))), .val (.int ((p1 >>> ((2 : Int32) &&& 31)) &&& (3 : Int32))), .val (.int ((p1 >>> ((4 : Int32) &&& 31)) &&& (3 : Int32))), .unset, .unset, .unset, .unset] [(.int ((p1 >>> ((4 : Int32) &&& 31)) &&& (3 : Int32))), (.int (2 : Int32)), (.ref b5), (.ref b5)])) _
    refine st14 _ ?_
    show Steps p.tables e below (T14.setTop (mkF m 37 #[.val (.int p1), .val (.long q2), .second, .val (.long q3), .second, .val (.long q4), .second, .val (.int (p1 &&& (3 : Int32))), .val (.int ((p1 >>> ((2 : Int32) &&& 31)) &&& (3 : Int32))), .val (.int ((p1 >>> ((4 : Int32) &&& 31)) &&& (3 : Int32))), .unset, .unset, .unset, .unset] [(.ref b5)])) _
    refine XS.astore X14.here hx rfl (hb hby at_37) rfl rfl (l' := #[.val (.int p1), .val (.long q2), .second, .val (.long q3), .second, .val (.long q4), .second, .val (.int (p1 &&& (3 : Int32))), .val (.int ((p1 >>> ((2 : Int32) &&& 31)) &&& (3 : Int32))), .val (.int ((p1 >>> ((4 : Int32) &&& 31)) &&& (3 : Int32))), .val (.ref b5), .unset, .unset, .unset]) rfl ?_
    show Steps p.tables e below (T14.setTop (mkF m 39 #[.val (.int p1), .val (.long q2), .second, .val (.long q3), .second, .val (.long q4), .second, .val (.int (p1 &&& (3 : Int32))), .val (.int ((p1 >>> ((2 : Int32) &&& 31)) &&& (3 : Int32))), .val (.int ((p1 >>> ((4 : Int32) &&& 31)) &&& (3 : Int32))), .val (.ref b5), .unset, .unset, .unset] [])) _
    refine XS.iconst X14.here hx rfl (hb hby at_39) ?_
    show Steps p.tables e below (T14.setTop (mkF m 40 #[.val (.int p1), .val (.long q2), .second, .val (.long q3), .second, .val (.long q4), .second, .val (.int (p1 &&& (3 : Int32))), .val (.int ((p1 >>> ((2 : Int32) &&& 31)) &&& (3 : Int32))), .val (.int ((p1 >>> ((4 : Int32) &&& 31)) &&& (3 : Int32))), .val (.ref b5), .unset, .unset, .unset] [(.int (3 : Int32))])) _
    refine st17 _ ?_
    show Steps p.tables e below (T17.setTop (mkF m 42 #[.val (.int p1), .val (.long q2), .second, .val (.long q3), .second, .val (.long q4), .second, .val (.int (p1 &&& (3 : Int32))), .val (.int ((p1 >>> ((2 : Int32) &&& 31)) &&& (3 : Int32))), .val (.int ((p1 >>> ((4 : Int32) &&& 31)) &&& (3 : Int32))), .val (.ref b5), .unset, .unset, .unset] [(.ref b17)])) _
    refine XS.dup X17.here hx rfl (hb hby at_42) rfl rfl ?_
    show Steps p.tables e below (T17.setTop (mkF m 43 #[.val (.int p1), .val (.long q2), .second, .val (.long q3), .second, .val (.long q4), .second, .val (.int (p1 &&& (3 : Int32))), .val (.int ((p1 >>> ((2 : Int32) &&& 31)) &&& (3 : Int32))), .val (.int ((p1 >>> ((4 : Int32) &&& 31)) &&& (3 : Int32))), .val (.ref b5), .unset, .unset, .unset] [(.ref b17), (.ref b17)])) _
    refine XS.iconst X17.here hx rfl (hb hby at_43) ?_
    show Steps p.tables e below (T17.setTop (mkF m 44 #[.val (.int p1), .val (.long q2), .second, .val (.long q3), .second, .val (.long q4), .second, .val (.int (p1 &&& (3 : Int32))), .val (.int ((p1 >>> ((2 : Int32) &&& 31)) &&& (3 : Int32))), .val (.int ((p1 >>> ((4 : Int32) &&& 31)) &&& (3 : Int32))), .val (.ref b5), .unset, .unset, .unset] [(.int (0 : Int32)), (.ref b17), (.ref b17)])) _
    refine XS.lloadN X17.here hx rfl (hb hby at_44) rfl ?_
    show Steps p.tables e below (T17.setTop (mkF m 45 #[.val (.int p1), .val (.long q2), .second, .val (.long q3), .second, .val (.long q4), .second, .val (.int (p1 &&& (3 : Int32))), .val (.int ((p1 >>> ((2 : Int32) &&& 31)) &&& (3 : Int32))), .val (.int ((p1 >>> ((4 : Int32) &&& 31)) &&& (3 : Int32))), .val (.ref b5), .unset, .unset, .unset] [(.long q2), (.int (0 : Int32)), (.ref b17), (.ref b17)])) _
    refine st21 _ ?_
    show Steps p.tables e below (T21.setTop (mkF m 46 #[.val (.int p1), .val (.long q2), .second, .val (.long q3), .second, .val (.long q4), .second, .val (.int (p1 &&& (3 : Int32))), .val (.int ((p1 >>> ((2 : Int32) &&& 31)) &&& (3 : Int32))), .val (.int ((p1 >>> ((4 : Int32) &&& 31)) &&& (3 : Int32))), .val (.ref b5), .unset, .unset, .unset] [(.ref b17)])) _
    refine XS.dup X21.here hx rfl (hb hby at_46) rfl rfl ?_
    show Steps p.tables e below (T21.setTop (mkF m 47 #[.val (.int p1), .val (.long q2), .second, .val (.long q3), .second, .val (.long q4), .second, .val (.int (p1 &&& (3 : Int32))), .val (.int ((p1 >>> ((2 : Int32) &&& 31)) &&& (3 : Int32))), .val (.int ((p1 >>> ((4 : Int32) &&& 31)) &&& (3 : Int32))), .val (.ref b5), .unset, .unset, .unset] [(.ref b17), (.ref b17)])) _
    refine XS.iconst X21.here hx rfl (hb hby at_47) ?_
    show Steps p.tables e below (T21.setTop (mkF m 48 #[.val (.int p1), .val (.long q2), .second, .val (.long q3), .second, .val (.long q4), .second, .val (.int (p1 &&& (3 : Int32))), .val (.int ((p1 >>> ((2 : Int32) &&& 31)) &&& (3 : Int32))), .val (.int ((p1 >>> ((4 : Int32) &&& 31)) &&& (3 : Int32))), .val (.ref b5), .unset, .unset, .unset] [(.int (1 : Int32)), (.ref b17), (.ref b17)])) _
    refine XS.lloadN X21.here hx rfl (hb hby at_48) rfl ?_
    show Steps p.tables e below (T21.setTop (mkF m 49 #[.val (.int p1), .val (.long q2), .second, .val (.long q3), .second, .val (.long q4), .second, .val (.int (p1 &&& (3 : Int32))), .val (.int ((p1 >>> ((2 : Int32) &&& 31)) &&& (3 : Int32))), .val (.int ((p1 >>> ((4 : Int32) &&& 31)) &&& (3 : Int32))), .val (.ref b5), .unset, .unset, .unset] [(.long q3), (.int (1 : Int32)), (.ref b17), (.ref b17)])) _
    refine st25 _ ?_
    show Steps p.tables e below (T25.setTop (mkF m 50 #[.val (.int p1), .val (.long q2), .second, .val (.long q3), .second, .val (.long q4), .second, .val (.int (p1 &&& (3 : Int32))), .val (.int ((p1 >>> ((2 : Int32) &&& 31)) &&& (3 : Int32))), .val (.int ((p1 >>> ((4 : Int32) &&& 31)) &&& (3 : Int32))), .val (.ref b5), .unset, .unset, .unset] [(.ref b17)])) _
    refine XS.dup X25.here hx rfl (hb hby at_50) rfl rfl ?_
    show Steps p.tables e below (T25.setTop (mkF m 51 #[.val (.int p1), .val (.long q2), .second, .val (.long q3), .second, .val (.long q4), .second, .val (.int (p1 &&& (3 : Int32))), .val (.int ((p1 >>> ((2 : Int32) &&& 31)) &&& (3 : Int32))), .val (.int ((p1 >>> ((4 : Int32) &&& 31)) &&& (3 : Int32))), .val (.ref b5), .unset, .unset, .unset] [(.ref b17), (.ref b17)])) _
    refine XS.iconst X25.here hx rfl (hb hby at_51) ?_
    show Steps p.tables e below (T25.setTop (mkF m 52 #[.val (.int p1), .val (.long q2), .second, .val (.long q3), .second, .val (.long q4), .second, .val (.int (p1 &&& (3 : Int32))), .val (.int ((p1 >>> ((2 : Int32) &&& 31)) &&& (3 : Int32))), .val (.int ((p1 >>> ((4 : Int32) &&& 31)) &&& (3 : Int32))), .val (.ref b5), .unset, .unset, .unset] [(.int (2 : Int32)), (.ref b17), (.ref b17)])) _
    refine XS.lload X25.here hx rfl (hb hby at_52) rfl ?_
    show Steps p.tables e below (T25.setTop (mkF m 54 #[.val (.int p1), .val (.long q2), .second, .val (.long q3), .second, .val (.long q4), .second, .val (.int (p1 &&& (3 : Int32))), .val (.int ((p1 >>> ((2 : Int32) &&& 31)) &&& (3 : Int32))), .val (.int ((p1 >>> ((4 : Int32) &&& 31)) &&& (3 : Int32))), .val (.ref b5), .unset, .unset, .unset] [(.long q4), (.int (2 : Int32)), (.ref b17), (.ref b17)])) _
    refine st29 _ ?_
    show Steps p.tables e below (T29.setTop (mkF m 55 #[.val (.int p1), .val (.long q2), .second, .val (.long q3), .second, .val (.long q4), .second, .val (.int (p1 &&& (3 : Int32))), .val (.int ((p1 >>> ((2 : Int32) &&& 31)) &&& (3 : Int32))), .val (.int ((p1 >>> ((4 : Int32) &&& 31)) &&& (3 : Int32))), .val (.ref b5), .unset, .unset, .unset] [(.ref b17)])) _
    refine XS.astore X29.here hx rfl (hb hby at_55) rfl rfl (l' := #[.val (.int p1), .val (.long q2), .second, .val (.long q3), .second, .val (.long q4), .second, .val (.int (p1 &&& (3 : Int32))), .val (.int ((p1 >>> ((2 : Int32) &&& 31)) &&& (3 : Int32))), .val (.int ((p1 >>> ((4 : Int32) &&& 31)) &&& (3 : Int32))), .val (.ref b5), .val (.ref b17), .unset, .unset]) rfl ?_
    show Steps p.tables e below (T29.setTop (mkF m 57 #[.val (.int p1), .val (.long q2), .second, .val (.long q3), .second, .val (.long q4), .second, .val (.int (p1 &&& (3 : Int32))), .val (.int ((p1 >>> ((2 : Int32) &&& 31)) &&& (3 : Int32))), .val (.int ((p1 >>> ((4 : Int32) &&& 31)) &&& (3 : Int32))), .val (.ref b5), .val (.ref b17), .unset, .unset] [])) _
    refine st33 _ ?_
    show Steps p.tables e below (T33.setTop (mkF m 60 #[.val (.int p1), .val (.long q2), .second, .val (.long q3), .second, .val (.long q4), .second, .val (.int (p1 &&& (3 : Int32))), .val (.int ((p1 >>> ((2 : Int32) &&& 31)) &&& (3 : Int32))), .val (.int ((p1 >>> ((4 : Int32) &&& 31)) &&& (3 : Int32))), .val (.ref b5), .val (.ref b17), .unset, .unset] [(.ref b33)])) _
    refine XS.dup X33.here hx rfl (hb hby at_60) rfl rfl ?_
    show Steps p.tables e below (T33.setTop (mkF m 61 #[.val (.int p1), .val (.long q2), .second, .val (.long q3), .second, .val (.long q4), .second, .val (.int (p1 &&& (3 : Int32))), .val (.int ((p1 >>> ((2 : Int32) &&& 31)) &&& (3 : Int32))), .val (.int ((p1 >>> ((4 : Int32) &&& 31)) &&& (3 : Int32))), .val (.ref b5), .val (.ref b17), .unset, .unset] [(.ref b33), (.ref b33)])) _
    refine XS.iconst X33.here hx rfl (hb hby at_61) ?_
    show Steps p.tables e below (T33.setTop (mkF m 62 #[.val (.int p1), .val (.long q2), .second, .val (.long q3), .second, .val (.long q4), .second, .val (.int (p1 &&& (3 : Int32))), .val (.int ((p1 >>> ((2 : Int32) &&& 31)) &&& (3 : Int32))), .val (.int ((p1 >>> ((4 : Int32) &&& 31)) &&& (3 : Int32))), .val (.ref b5), .val (.ref b17), .unset, .unset] [(.int (4 : Int32)), (.ref b33), (.ref b33)])) _
    refine XS.aload X33.here hx rfl (hb hby at_62) rfl rfl ?_
    show Steps p.tables e below (T33.setTop (mkF m 64 #[.val (.int p1), .val (.long q2), .second, .val (.long q3), .second, .val (.long q4), .second, .val (.int (p1 &&& (3 : Int32))), .val (.int ((p1 >>> ((2 : Int32) &&& 31)) &&& (3 : Int32))), .val (.int ((p1 >>> ((4 : Int32) &&& 31)) &&& (3 : Int32))), .val (.ref b5), .val (.ref b17), .unset, .unset] [(.ref b5), (.int (4 : Int32)), (.ref b33), (.ref b33)])) _
    refine XS.aload X33.here hx rfl (hb hby at_64) rfl rfl ?_
    show Steps p.tables e below (T33.setTop (mkF m 66 #[.val (.int p1), .val (.long q2), .second, .val (.long q3), .second, .val (.long q4), .second, .val (.int (p1 &&& (3 : Int32))), .val (.int ((p1 >>> ((2 : Int32) &&& 31)) &&& (3 : Int32))), .val (.int ((p1 >>> ((4 : Int32) &&& 31)) &&& (3 : Int32))), .val (.ref b5), .val (.ref b17), .unset, .unset] [(.ref b17), (.ref b5), (.int (4 : Int32)), (.ref b33), (.ref b33)])) _
    refine st41.trans ?_
    show Steps p.tables e below (T41.setTop (mkF m 69 #[.val (.int p1), .val (.long q2), .second, .val (.long q3), .second, .val (.long q4), .second, .val (.int (p1 &&& (3 : Int32))), .val (.int ((p1 >>> ((2 : Int32) &&& 31)) &&& (3 : Int32))), .val (.int ((p1 >>> ((4 : Int32) &&& 31)) &&& (3 : Int32))), .val (.ref b5), .val (.ref b17), .unset, .unset] [(.ref b33)])) _
    refine XS.astore X41.here hx rfl (hb hby at_69) rfl rfl (l' := #[.val (.int p1), .val (.long q2), .second, .val (.long q3), .second, .val (.long q4), .second, .val (.int (p1 &&& (3 : Int32))), .val (.int ((p1 >>> ((2 : Int32) &&& 31)) &&& (3 : Int32))), .val (.int ((p1 >>> ((4 : Int32) &&& 31)) &&& (3 : Int32))), .val (.ref b5), .val (.ref b17), .val (.ref b33), .unset]) rfl ?_
    show Steps p.tables e below (T41.setTop (mkF m 71 #[.val (.int p1), .val (.long q2), .second, .val (.long q3), .second, .val (.long q4), .second, .val (.int (p1 &&& (3 : Int32))), .val (.int ((p1 >>> ((2 : Int32) &&& 31)) &&& (3 : Int32))), .val (.int ((p1 >>> ((4 : Int32) &&& 31)) &&& (3 : Int32))), .val (.ref b5), .val (.ref b17), .val (.ref b33), .unset] [])) _
    refine XS.aload X41.here hx rfl (hb hby at_71) rfl rfl ?_
    show Steps p.tables e below (T41.setTop (mkF m 73 #[.val (.int p1), .val (.long q2), .second, .val (.long q3), .second, .val (.long q4), .second, .val (.int (p1 &&& (3 : Int32))), .val (.int ((p1 >>> ((2 : Int32) &&& 31)) &&& (3 : Int32))), .val (.int ((p1 >>> ((4 : Int32) &&& 31)) &&& (3 : Int32))), .val (.ref b5), .val (.ref b17), .val (.ref b33), .unset] [(.ref b33)])) _
    refine XS.iconst X41.here hx rfl (hb hby at_73) ?_
    show Steps p.tables e below (T41.setTop (mkF m 74 #[.val (.int p1), .val (.long q2), .second, .val (.long q3), .second, .val (.long q4), .second, .val (.int (p1 &&& (3 : Int32))), .val (.int ((p1 >>> ((2 : Int32) &&& 31)) &&& (3 : Int32))), .val (.int ((p1 >>> ((4 : Int32) &&& 31)) &&& (3 : Int32))), .val (.ref b5), .val (.ref b17), .val (.ref b33), .unset] [(.int (0 : Int32)), (.ref b33)])) _
    refine st50.trans ?_
    show Steps p.tables e below (T50.setTop (mkF m 77 #[.val (.int p1), .val (.long q2), .second, .val (.long q3), .second, .val (.long q4), .second, .val (.int (p1 &&& (3 : Int32))), .val (.int ((p1 >>> ((2 : Int32) &&& 31)) &&& (3 : Int32))), .val (.int ((p1 >>> ((4 : Int32) &&& 31)) &&& (3 : Int32))), .val (.ref b5), .val (.ref b17), .val (.ref b33), .unset] [(.int (f9 (0 : Int32) (f1_x0n (4 : Int32) (3 : Int32) (f0_v36 p1) (3 : Int32) (f0_v54 q2 q3 q4)) (f1_x0c (4 : Int32) (3 : Int32) (f0_v36 p1) (3 : Int32) (f0_v54 q2 q3 q4)) (f1_rn (4 : Int32) (3 : Int32) (f0_v36 p1) (3 : Int32) (f0_v54 q2 q3 q4)) (f1_rf (4 : Int32) (3 : Int32) (f0_v36 p1) (3 : Int32) (f0_v54 q2 q3 q4))))])) _
    refine XS.iconst X50.here hx rfl (hb hby at_77) ?_
    show Steps p.tables e below (T50.setTop (mkF m 78 #[.val (.int p1), .val (.long q2), .second, .val (.long q3), .second, .val (.long q4), .second, .val (.int (p1 &&& (3 : Int32))), .val (.int ((p1 >>> ((2 : Int32) &&& 31)) &&& (3 : Int32))), .val (.int ((p1 >>> ((4 : Int32) &&& 31)) &&& (3 : Int32))), .val (.ref b5), .val (.ref b17), .val (.ref b33), .unset] [(.int (0 : Int32)), (.int (f9 (0 : Int32) (f1_x0n (4 : Int32) (3 : Int32) (f0_v36 p1) (3 : Int32) (f0_v54 q2 q3 q4)) (f1_x0c (4 : Int32) (3 : Int32) (f0_v36 p1) (3 : Int32) (f0_v54 q2 q3 q4)) (f1_rn (4 : Int32) (3 : Int32) (f0_v36 p1) (3 : Int32) (f0_v54 q2 q3 q4)) (f1_rf (4 : Int32) (3 : Int32) (f0_v36 p1) (3 : Int32) (f0_v54 q2 q3 q4))))])) _
    refine XS.iload X50.here hx rfl (hb hby at_78) rfl ?_
    show Steps p.tables e below (T50.setTop (mkF m 80 #[.val (.int p1), .val (.long q2), .second, .val (.long q3), .second, .val (.long q4), .second, .val (.int (p1 &&& (3 : Int32))), .val (.int ((p1 >>> ((2 : Int32) &&& 31)) &&& (3 : Int32))), .val (.int ((p1 >>> ((4 : Int32) &&& 31)) &&& (3 : Int32))), .val (.ref b5), .val (.ref b17), .val (.ref b33), .unset] [(.int (p1 &&& (3 : Int32))), (.int (0 : Int32)), (.int (f9 (0 : Int32) (f1_x0n (4 : Int32) (3 : Int32) (f0_v36 p1) (3 : Int32) (f0_v54 q2 q3 q4)) (f1_x0c (4 : Int32) (3 : Int32) (f0_v36 p1) (3 : Int32) (f0_v54 q2 q3 q4)) (f1_rn (4 : Int32) (3 : Int32) (f0_v36 p1) (3 : Int32) (f0_v54 q2 q3 q4)) (f1_rf (4 : Int32) (3 : Int32) (f0_v36 p1) (3 : Int32) (f0_v54 q2 q3 q4))))])) _
    refine XS.iload X50.here hx rfl (hb hby at_80) rfl ?_
    show Steps p.tables e below (T50.setTop (mkF m 82 #[.val (.int p1), .val (.long q2), .second, .val (.long q3), .second, .val (.long q4), .second, .val (.int (p1 &&& (3 : Int32))), .val (.int ((p1 >>> ((2 : Int32) &&& 31)) &&& (3 : Int32))), .val (.int ((p1 >>> ((4 : Int32) &&& 31)) &&& (3 : Int32))), .val (.ref b5), .val (.ref b17), .val (.ref b33), .unset] [(.int ((p1 >>> ((2 : Int32) &&& 31)) &&& (3 : Int32))), (.int (p1 &&& (3 : Int32))), (.int (0 : Int32)), (.int (f9 (0 : Int32) (f1_x0n (4 : Int32) (3 : Int32) (f0_v36 p1) (3 : Int32) (f0_v54 q2 q3 q4)) (f1_x0c (4 : Int32) (3 : Int32) (f0_v36 p1) (3 : Int32) (f0_v54 q2 q3 q4)) (f1_rn (4 : Int32) (3 : Int32) (f0_v36 p1) (3 : Int32) (f0_v54 q2 q3 q4)) (f1_rf (4 : Int32) (3 : Int32) (f0_v36 p1) (3 : Int32) (f0_v54 q2 q3 q4))))])) _
    refine XS.iload X50.here hx rfl (hb hby at_82) rfl ?_
    show Steps p.tables e below (T50.setTop (mkF m 84 #[.val (.int p1), .val (.long q2), .second, .val (.long q3), .second, .val (.long q4), .second, .val (.int (p1 &&& (3 : Int32))), .val (.int ((p1 >>> ((2 : Int32) &&& 31)) &&& (3 : Int32))), .val (.int ((p1 >>> ((4 : Int32) &&& 31)) &&& (3 : Int32))), .val (.ref b5), .val (.ref b17), .val (.ref b33), .unset] [(.int ((p1 >>> ((4 : Int32) &&& 31)) &&& (3 : Int32))), (.int ((p1 >>> ((2 : Int32) &&& 31)) &&& (3 : Int32))), (.int (p1 &&& (3 : Int32))), (.int (0 : Int32)), (.int (f9 (0 : Int32) (f1_x0n (4 : Int32) (3 : Int32) (f0_v36 p1) (3 : Int32) (f0_v54 q2 q3 q4)) (f1_x0c (4 : Int32) (3 : Int32) (f0_v36 p1) (3 : Int32) (f0_v54 q2 q3 q4)) (f1_rn (4 : Int32) (3 : Int32) (f0_v36 p1) (3 : Int32) (f0_v54 q2 q3 q4)) (f1_rf (4 : Int32) (3 : Int32) (f0_v36 p1) (3 : Int32) (f0_v54 q2 q3 q4))))])) _
    refine XS.lloadN X50.here hx rfl (hb hby at_84) rfl ?_
    show Steps p.tables e below (T50.setTop (mkF m 85 #[.val (.int p1), .val (.long q2), .second, .val (.long q3), .second, .val (.long q4), .second, .val (.int (p1 &&& (3 : Int32))), .val (.int ((p1 >>> ((2 : Int32) &&& 31)) &&& (3 : Int32))), .val (.int ((p1 >>> ((4 : Int32) &&& 31)) &&& (3 : Int32))), .val (.ref b5), .val (.ref b17), .val (.ref b33), .unset] [(.long q2), (.int ((p1 >>> ((4 : Int32) &&& 31)) &&& (3 : Int32))), (.int ((p1 >>> ((2 : Int32) &&& 31)) &&& (3 : Int32))), (.int (p1 &&& (3 : Int32))), (.int (0 : Int32)), (.int (f9 (0 : Int32) (f1_x0n (4 : Int32) (3 : Int32) (f0_v36 p1) (3 : Int32) (f0_v54 q2 q3 q4)) (f1_x0c (4 : Int32) (3 : Int32) (f0_v36 p1) (3 : Int32) (f0_v54 q2 q3 q4)) (f1_rn (4 : Int32) (3 : Int32) (f0_v36 p1) (3 : Int32) (f0_v54 q2 q3 q4)) (f1_rf (4 : Int32) (3 : Int32) (f0_v36 p1) (3 : Int32) (f0_v54 q2 q3 q4))))])) _
    refine XS.lloadN X50.here hx rfl (hb hby at_85) rfl ?_
    show Steps p.tables e below (T50.setTop (mkF m 86 #[.val (.int p1), .val (.long q2), .second, .val (.long q3), .second, .val (.long q4), .second, .val (.int (p1 &&& (3 : Int32))), .val (.int ((p1 >>> ((2 : Int32) &&& 31)) &&& (3 : Int32))), .val (.int ((p1 >>> ((4 : Int32) &&& 31)) &&& (3 : Int32))), .val (.ref b5), .val (.ref b17), .val (.ref b33), .unset] [(.long q3), (.long q2), (.int ((p1 >>> ((4 : Int32) &&& 31)) &&& (3 : Int32))), (.int ((p1 >>> ((2 : Int32) &&& 31)) &&& (3 : Int32))), (.int (p1 &&& (3 : Int32))), (.int (0 : Int32)), (.int (f9 (0 : Int32) (f1_x0n (4 : Int32) (3 : Int32) (f0_v36 p1) (3 : Int32) (f0_v54 q2 q3 q4)) (f1_x0c (4 : Int32) (3 : Int32) (f0_v36 p1) (3 : Int32) (f0_v54 q2 q3 q4)) (f1_rn (4 : Int32) (3 : Int32) (f0_v36 p1) (3 : Int32) (f0_v54 q2 q3 q4)) (f1_rf (4 : Int32) (3 : Int32) (f0_v36 p1) (3 : Int32) (f0_v54 q2 q3 q4))))])) _
    refine XS.lload X50.here hx rfl (hb hby at_86) rfl ?_
    show Steps p.tables e below (T50.setTop (mkF m 88 #[.val (.int p1), .val (.long q2), .second, .val (.long q3), .second, .val (.long q4), .second, .val (.int (p1 &&& (3 : Int32))), .val (.int ((p1 >>> ((2 : Int32) &&& 31)) &&& (3 : Int32))), .val (.int ((p1 >>> ((4 : Int32) &&& 31)) &&& (3 : Int32))), .val (.ref b5), .val (.ref b17), .val (.ref b33), .unset] [(.long q4), (.long q3), (.long q2), (.int ((p1 >>> ((4 : Int32) &&& 31)) &&& (3 : Int32))), (.int ((p1 >>> ((2 : Int32) &&& 31)) &&& (3 : Int32))), (.int (p1 &&& (3 : Int32))), (.int (0 : Int32)), (.int (f9 (0 : Int32) (f1_x0n (4 : Int32) (3 : Int32) (f0_v36 p1) (3 : Int32) (f0_v54 q2 q3 q4)) (f1_x0c (4 : Int32) (3 : Int32) (f0_v36 p1) (3 : Int32) (f0_v54 q2 q3 q4)) (f1_rn (4 : Int32) (3 : Int32) (f0_v36 p1) (3 : Int32) (f0_v54 q2 q3 q4)) (f1_rf (4 : Int32) (3 : Int32) (f0_v36 p1) (3 : Int32) (f0_v54 q2 q3 q4))))])) _
    refine st51 _ ?_
    exact k
  have pre2 : ∀ t, Steps p.tables e below (T51.setTop (mkF m 99 #[.val (.int p1), .val (.long q2), .second, .val (.long q3), .second, .val (.long q4), .second, .val (.int (p1 &&& (3 : Int32))), .val (.int ((p1 >>> ((2 : Int32) &&& 31)) &&& (3 : Int32))), .val (.int ((p1 >>> ((4 : Int32) &&& 31)) &&& (3 : Int32))), .val (.ref b5), .val (.ref b17), .val (.ref b33), .unset] [(.int (f0_s0_99 p1 q2 q3 q4))])) t → Steps p.tables e below (s₁.setTop (entryFrame m #[(.int p1), (.long q2), (.long q3), (.long q4)] maxLocals)) t := by
    intro t k
    by_cases hc91 : (f9 (0 : Int32) (f1_x0n (4 : Int32) (3 : Int32) (f0_v36 p1) (3 : Int32) (f0_v54 q2 q3 q4)) (f1_x0c (4 : Int32) (3 : Int32) (f0_v36 p1) (3 : Int32) (f0_v54 q2 q3 q4)) (f1_rn (4 : Int32) (3 : Int32) (f0_v36 p1) (3 : Int32) (f0_v54 q2 q3 q4)) (f1_rf (4 : Int32) (3 : Int32) (f0_v36 p1) (3 : Int32) (f0_v54 q2 q3 q4))) = (f10 (0 : Int32) (p1 &&& (3 : Int32)) ((p1 >>> ((2 : Int32) &&& 31)) &&& (3 : Int32)) ((p1 >>> ((4 : Int32) &&& 31)) &&& (3 : Int32)) q2 q3 q4)
    · have eq3 := (show (f0_s0_99 p1 q2 q3 q4) = (1 : Int32) from by unfold f0_s0_99; simp only [if_pos hc91])
      try rw [eq3] at k
      refine pre1 t ?_
      show Steps p.tables e below (T51.setTop (mkF m 91 #[.val (.int p1), .val (.long q2), .second, .val (.long q3), .second, .val (.long q4), .second, .val (.int (p1 &&& (3 : Int32))), .val (.int ((p1 >>> ((2 : Int32) &&& 31)) &&& (3 : Int32))), .val (.int ((p1 >>> ((4 : Int32) &&& 31)) &&& (3 : Int32))), .val (.ref b5), .val (.ref b17), .val (.ref b33), .unset] [(.int (f10 (0 : Int32) (p1 &&& (3 : Int32)) ((p1 >>> ((2 : Int32) &&& 31)) &&& (3 : Int32)) ((p1 >>> ((4 : Int32) &&& 31)) &&& (3 : Int32)) q2 q3 q4)), (.int (f9 (0 : Int32) (f1_x0n (4 : Int32) (3 : Int32) (f0_v36 p1) (3 : Int32) (f0_v54 q2 q3 q4)) (f1_x0c (4 : Int32) (3 : Int32) (f0_v36 p1) (3 : Int32) (f0_v54 q2 q3 q4)) (f1_rn (4 : Int32) (3 : Int32) (f0_v36 p1) (3 : Int32) (f0_v54 q2 q3 q4)) (f1_rf (4 : Int32) (3 : Int32) (f0_v36 p1) (3 : Int32) (f0_v54 q2 q3 q4))))])) _
      refine XS.icmpNo X51.here hx rfl (hb hby at_91) rfl (teq hc91).2 ?_
      show Steps p.tables e below (T51.setTop (mkF m 94 #[.val (.int p1), .val (.long q2), .second, .val (.long q3), .second, .val (.long q4), .second, .val (.int (p1 &&& (3 : Int32))), .val (.int ((p1 >>> ((2 : Int32) &&& 31)) &&& (3 : Int32))), .val (.int ((p1 >>> ((4 : Int32) &&& 31)) &&& (3 : Int32))), .val (.ref b5), .val (.ref b17), .val (.ref b33), .unset] [])) _
      refine XS.iconst X51.here hx rfl (hb hby at_94) ?_
      show Steps p.tables e below (T51.setTop (mkF m 95 #[.val (.int p1), .val (.long q2), .second, .val (.long q3), .second, .val (.long q4), .second, .val (.int (p1 &&& (3 : Int32))), .val (.int ((p1 >>> ((2 : Int32) &&& 31)) &&& (3 : Int32))), .val (.int ((p1 >>> ((4 : Int32) &&& 31)) &&& (3 : Int32))), .val (.ref b5), .val (.ref b17), .val (.ref b33), .unset] [(.int (1 : Int32))])) _
      refine XS.goto X51.here hx rfl (pc0 := 95) (pc' := 99) rfl (hb hby at_95) (by decide) (by decide) ?_
      exact k
    · have eq4 := (show (f0_s0_99 p1 q2 q3 q4) = (0 : Int32) from by unfold f0_s0_99; simp only [if_neg hc91])
      try rw [eq4] at k
      refine pre1 t ?_
      show Steps p.tables e below (T51.setTop (mkF m 91 #[.val (.int p1), .val (.long q2), .second, .val (.long q3), .second, .val (.long q4), .second, .val (.int (p1 &&& (3 : Int32))), .val (.int ((p1 >>> ((2 : Int32) &&& 31)) &&& (3 : Int32))), .val (.int ((p1 >>> ((4 : Int32) &&& 31)) &&& (3 : Int32))), .val (.ref b5), .val (.ref b17), .val (.ref b33), .unset] [(.int (f10 (0 : Int32) (p1 &&& (3 : Int32)) ((p1 >>> ((2 : Int32) &&& 31)) &&& (3 : Int32)) ((p1 >>> ((4 : Int32) &&& 31)) &&& (3 : Int32)) q2 q3 q4)), (.int (f9 (0 : Int32) (f1_x0n (4 : Int32) (3 : Int32) (f0_v36 p1) (3 : Int32) (f0_v54 q2 q3 q4)) (f1_x0c (4 : Int32) (3 : Int32) (f0_v36 p1) (3 : Int32) (f0_v54 q2 q3 q4)) (f1_rn (4 : Int32) (3 : Int32) (f0_v36 p1) (3 : Int32) (f0_v54 q2 q3 q4)) (f1_rf (4 : Int32) (3 : Int32) (f0_v36 p1) (3 : Int32) (f0_v54 q2 q3 q4))))])) _
      refine XS.icmpYes X51.here hx rfl (pc0 := 91) (pc' := 98) rfl (hb hby at_91) rfl (feq hc91).2 (by decide) (by decide) ?_
      show Steps p.tables e below (T51.setTop (mkF m 98 #[.val (.int p1), .val (.long q2), .second, .val (.long q3), .second, .val (.long q4), .second, .val (.int (p1 &&& (3 : Int32))), .val (.int ((p1 >>> ((2 : Int32) &&& 31)) &&& (3 : Int32))), .val (.int ((p1 >>> ((4 : Int32) &&& 31)) &&& (3 : Int32))), .val (.ref b5), .val (.ref b17), .val (.ref b33), .unset] [])) _
      refine XS.iconst X51.here hx rfl (hb hby at_98) ?_
      exact k
  have pre5 : ∀ t, Steps p.tables e below (T51.setTop (mkF m 103 #[.val (.int p1), .val (.long q2), .second, .val (.long q3), .second, .val (.long q4), .second, .val (.int (p1 &&& (3 : Int32))), .val (.int ((p1 >>> ((2 : Int32) &&& 31)) &&& (3 : Int32))), .val (.int ((p1 >>> ((4 : Int32) &&& 31)) &&& (3 : Int32))), .val (.ref b5), .val (.ref b17), .val (.ref b33), .val (.int (f0_s0_99 p1 q2 q3 q4))] [(.int (f0_s0_99 p1 q2 q3 q4))])) t → Steps p.tables e below (s₁.setTop (entryFrame m #[(.int p1), (.long q2), (.long q3), (.long q4)] maxLocals)) t := by
    intro t k
    refine pre2 t ?_
    show Steps p.tables e below (T51.setTop (mkF m 99 #[.val (.int p1), .val (.long q2), .second, .val (.long q3), .second, .val (.long q4), .second, .val (.int (p1 &&& (3 : Int32))), .val (.int ((p1 >>> ((2 : Int32) &&& 31)) &&& (3 : Int32))), .val (.int ((p1 >>> ((4 : Int32) &&& 31)) &&& (3 : Int32))), .val (.ref b5), .val (.ref b17), .val (.ref b33), .unset] [(.int (f0_s0_99 p1 q2 q3 q4))])) _
    refine XS.istore X51.here hx rfl (hb hby at_99) rfl (l' := #[.val (.int p1), .val (.long q2), .second, .val (.long q3), .second, .val (.long q4), .second, .val (.int (p1 &&& (3 : Int32))), .val (.int ((p1 >>> ((2 : Int32) &&& 31)) &&& (3 : Int32))), .val (.int ((p1 >>> ((4 : Int32) &&& 31)) &&& (3 : Int32))), .val (.ref b5), .val (.ref b17), .val (.ref b33), .val (.int (f0_s0_99 p1 q2 q3 q4))]) rfl ?_
    show Steps p.tables e below (T51.setTop (mkF m 101 #[.val (.int p1), .val (.long q2), .second, .val (.long q3), .second, .val (.long q4), .second, .val (.int (p1 &&& (3 : Int32))), .val (.int ((p1 >>> ((2 : Int32) &&& 31)) &&& (3 : Int32))), .val (.int ((p1 >>> ((4 : Int32) &&& 31)) &&& (3 : Int32))), .val (.ref b5), .val (.ref b17), .val (.ref b33), .val (.int (f0_s0_99 p1 q2 q3 q4))] [])) _
    refine XS.iload X51.here hx rfl (hb hby at_101) rfl ?_
    exact k
  obtain ⟨T54, Lmpre6, X54, e54, N54, pre6⟩ : ∃ (T' : State) (L' : List Loc), Stand p l e room_1 s m #[(.int p1), (.long q2), (.long q3), (.long q4)] below meth c T' L' 12 30 ∧ T'.heap = T41.heap ∧ Fr n0 L' ∧ ∀ t, Steps p.tables e below (T'.setTop (mkF m 134 #[.val (.int p1), .val (.long q2), .second, .val (.long q3), .second, .val (.long q4), .second, .val (.int (p1 &&& (3 : Int32))), .val (.int ((p1 >>> ((2 : Int32) &&& 31)) &&& (3 : Int32))), .val (.int ((p1 >>> ((4 : Int32) &&& 31)) &&& (3 : Int32))), .val (.ref b5), .val (.ref b17), .val (.ref b33), .val (.int (f0_s0_99 p1 q2 q3 q4))] [(.int (f0_s0_134 p1 q2 q3 q4))])) t → Steps p.tables e below (s₁.setTop (entryFrame m #[(.int p1), (.long q2), (.long q3), (.long q4)] maxLocals)) t := by
    by_cases hc103 : (f0_s0_99 p1 q2 q3 q4) = (0 : Int32)
    · have eq7 := (show (f0_s0_134 p1 q2 q3 q4) = (0 : Int32) from by unfold f0_s0_134; simp only [if_pos hc103])
      refine ⟨T51, _, X51, e51, N51, fun t k => ?_⟩
      try rw [eq7] at k
      refine pre5 t ?_
      show Steps p.tables e below (T51.setTop (mkF m 103 #[.val (.int p1), .val (.long q2), .second, .val (.long q3), .second, .val (.long q4), .second, .val (.int (p1 &&& (3 : Int32))), .val (.int ((p1 >>> ((2 : Int32) &&& 31)) &&& (3 : Int32))), .val (.int ((p1 >>> ((4 : Int32) &&& 31)) &&& (3 : Int32))), .val (.ref b5), .val (.ref b17), .val (.ref b33), .val (.int (f0_s0_99 p1 q2 q3 q4))] [(.int (f0_s0_99 p1 q2 q3 q4))])) _
      refine XS.ifYes X51.here hx rfl (pc0 := 103) (pc' := 133) rfl (hb hby at_103) rfl ((if0 _ _).trans (teq hc103).1) (by decide) (by decide) ?_
      show Steps p.tables e below (T51.setTop (mkF m 133 #[.val (.int p1), .val (.long q2), .second, .val (.long q3), .second, .val (.long q4), .second, .val (.int (p1 &&& (3 : Int32))), .val (.int ((p1 >>> ((2 : Int32) &&& 31)) &&& (3 : Int32))), .val (.int ((p1 >>> ((4 : Int32) &&& 31)) &&& (3 : Int32))), .val (.ref b5), .val (.ref b17), .val (.ref b33), .val (.int (f0_s0_99 p1 q2 q3 q4))] [])) _
      refine XS.iconst X51.here hx rfl (hb hby at_133) ?_
      exact k
    · obtain ⟨cq52, kq52, q52a, q52b, q52c⟩ := isOf hZ e51 c45
      obtain ⟨_, _, ⟨T52, L52, k52, n52⟩, -, X52, ⟨Lc52, hQ52, l52, y52, z52⟩, st52⟩ := X51.virtualBack hx (y := (⟨"com/example/podflow/podflow/simulation/Arrivals", "first", "(I)I"⟩ : MethodName)) (z := (⟨"com/example/podflow/podflow/simulation/Arrivals", "first", "(I)I"⟩ : MethodName)) hown (mvT hZ (hw _ (List.mem_of_getElem? (i := 49) rfl))) (mvT hZ (hw _ (List.mem_of_getElem? (i := 50) rfl))) (notFace_of_selects (args := #[]) (mvT hZ (hw _ (List.mem_of_getElem? (i := 52) rfl)))) (mvT hZ (hw _ (List.mem_of_getElem? (i := 52) rfl))) (mvT hZ (hw _ (List.mem_of_getElem? (i := 51) rfl))) (by decide) (backOf (W := 0) (rm9 l Z a0 hw [] b33 (1 : Int32) b5 b17 r41_1 r41_0 (f1_x0n (4 : Int32) (3 : Int32) (f0_v36 p1) (3 : Int32) (f0_v54 q2 q3 q4)) (f1_x0c (4 : Int32) (3 : Int32) (f0_v36 p1) (3 : Int32) (f0_v54 q2 q3 q4)) cO41 (f1_rn (4 : Int32) (3 : Int32) (f0_v36 p1) (3 : Int32) (f0_v54 q2 q3 q4)) (f1_rf (4 : Int32) (3 : Int32) (f0_v36 p1) (3 : Int32) (f0_v54 q2 q3 q4)) h33.size T41.heap n0 c42 c46 c47 c48 c49 va41_0 oO41 c34 (by decide) rfl (own_JL p1 q2 q3 q4)) hZ (hw _ (List.mem_of_getElem? (i := 53) rfl)) (hw _ (List.mem_of_getElem? (i := 4) rfl)) (by decide) (by decide)) q52a q52c (g := (mkF m 109 #[.val (.int p1), .val (.long q2), .second, .val (.long q3), .second, .val (.long q4), .second, .val (.int (p1 &&& (3 : Int32))), .val (.int ((p1 >>> ((2 : Int32) &&& 31)) &&& (3 : Int32))), .val (.int ((p1 >>> ((4 : Int32) &&& 31)) &&& (3 : Int32))), .val (.ref b5), .val (.ref b17), .val (.ref b33), .val (.int (f0_s0_99 p1 q2 q3 q4))] [(.int (1 : Int32)), (.ref b33)])) rfl (by rw [hml]; rfl) (Steps.refl _) (argsL := [(.int (1 : Int32))]) (rest := []) (lenOf pd_6 rfl) rfl (by show 2 * 0 + _ ≤ _; exact Nat.le_of_eq rfl) (hb hby at_109) (fun _ _ => ⟨rfl, e51, (by decide : 12 + 0 ≤ _), (by decide : 30 + 0 ≤ _)⟩)
      dsimp only [Pt.U, Pt.locs, Pt.cells, Pt.slots] at X52 l52 y52 z52 st52 hQ52
      subst l52 y52 z52
      obtain ⟨rfl, N52q, e52⟩ := hQ52
      have N52 := Fr.app N51 N52q
      obtain ⟨_, _, ⟨T53, L53, k53, n53⟩, -, X53, ⟨Lc53, hQ53, l53, y53, z53⟩, st53⟩ := Jvm.LawKit.callS X52 hx (y := (⟨"com/example/podflow/podflow/simulation/ArrivalsFirstPinLaw", "ref", "(IIIIJJJ)I"⟩ : MethodName)) hown (mvT hZ (hw _ (List.mem_of_getElem? (i := 54) rfl))) (mvT hZ (hw _ (List.mem_of_getElem? (i := 55) rfl))) (mvT hZ (hw _ (List.mem_of_getElem? (i := 56) rfl))) (mvT hZ (hw _ (List.mem_of_getElem? (i := 57) rfl))) (by decide) (backOf (W := 1) (rm10 l Z a0 hw [] (1 : Int32) (p1 &&& (3 : Int32)) ((p1 >>> ((2 : Int32) &&& 31)) &&& (3 : Int32)) ((p1 >>> ((4 : Int32) &&& 31)) &&& (3 : Int32)) q2 q3 q4 T41.heap n0 c42 ) hZ (hw _ (List.mem_of_getElem? (i := 57) rfl)) (hw _ (List.mem_of_getElem? (i := 56) rfl)) (by decide) (by decide)) (g := (mkF m 123 #[.val (.int p1), .val (.long q2), .second, .val (.long q3), .second, .val (.long q4), .second, .val (.int (p1 &&& (3 : Int32))), .val (.int ((p1 >>> ((2 : Int32) &&& 31)) &&& (3 : Int32))), .val (.int ((p1 >>> ((4 : Int32) &&& 31)) &&& (3 : Int32))), .val (.ref b5), .val (.ref b17), .val (.ref b33), .val (.int (f0_s0_99 p1 q2 q3 q4))] [(.long q4), (.long q3), (.long q2), (.int ((p1 >>> ((4 : Int32) &&& 31)) &&& (3 : Int32))), (.int ((p1 >>> ((2 : Int32) &&& 31)) &&& (3 : Int32))), (.int (p1 &&& (3 : Int32))), (.int (1 : Int32)), (.int (f9 (1 : Int32) (f1_x0n (4 : Int32) (3 : Int32) (f0_v36 p1) (3 : Int32) (f0_v54 q2 q3 q4)) (f1_x0c (4 : Int32) (3 : Int32) (f0_v36 p1) (3 : Int32) (f0_v54 q2 q3 q4)) (f1_rn (4 : Int32) (3 : Int32) (f0_v36 p1) (3 : Int32) (f0_v54 q2 q3 q4)) (f1_rf (4 : Int32) (3 : Int32) (f0_v36 p1) (3 : Int32) (f0_v54 q2 q3 q4))))])) rfl (by rw [hml]; rfl) (argsL := [(.int (1 : Int32)), (.int (p1 &&& (3 : Int32))), (.int ((p1 >>> ((2 : Int32) &&& 31)) &&& (3 : Int32))), (.int ((p1 >>> ((4 : Int32) &&& 31)) &&& (3 : Int32))), (.long q2), (.long q3), (.long q4)]) (rest := [(.int (f9 (1 : Int32) (f1_x0n (4 : Int32) (3 : Int32) (f0_v36 p1) (3 : Int32) (f0_v54 q2 q3 q4)) (f1_x0c (4 : Int32) (3 : Int32) (f0_v36 p1) (3 : Int32) (f0_v54 q2 q3 q4)) (f1_rn (4 : Int32) (3 : Int32) (f0_v36 p1) (3 : Int32) (f0_v54 q2 q3 q4)) (f1_rf (4 : Int32) (3 : Int32) (f0_v36 p1) (3 : Int32) (f0_v54 q2 q3 q4))))]) (lenOf pd_7 rfl) rfl (by show 2 * 0 + _ ≤ _; exact Nat.le_of_eq rfl) (hb hby at_123) (fun _ _ => ⟨rfl, e52, (by decide : 12 + 0 ≤ _), (by decide : 30 + 0 ≤ _)⟩)
      dsimp only [Pt.U, Pt.locs, Pt.cells, Pt.slots] at X53 l53 y53 z53 st53 hQ53
      subst l53 y53 z53
      obtain ⟨rfl, N53q, e53⟩ := hQ53
      have N53 := Fr.app N52 N53q
      have pre8 : ∀ t, Steps p.tables e below (T53.setTop (mkF m 126 #[.val (.int p1), .val (.long q2), .second, .val (.long q3), .second, .val (.long q4), .second, .val (.int (p1 &&& (3 : Int32))), .val (.int ((p1 >>> ((2 : Int32) &&& 31)) &&& (3 : Int32))), .val (.int ((p1 >>> ((4 : Int32) &&& 31)) &&& (3 : Int32))), .val (.ref b5), .val (.ref b17), .val (.ref b33), .val (.int (f0_s0_99 p1 q2 q3 q4))] [(.int (f10 (1 : Int32) (p1 &&& (3 : Int32)) ((p1 >>> ((2 : Int32) &&& 31)) &&& (3 : Int32)) ((p1 >>> ((4 : Int32) &&& 31)) &&& (3 : Int32)) q2 q3 q4)), (.int (f9 (1 : Int32) (f1_x0n (4 : Int32) (3 : Int32) (f0_v36 p1) (3 : Int32) (f0_v54 q2 q3 q4)) (f1_x0c (4 : Int32) (3 : Int32) (f0_v36 p1) (3 : Int32) (f0_v54 q2 q3 q4)) (f1_rn (4 : Int32) (3 : Int32) (f0_v36 p1) (3 : Int32) (f0_v54 q2 q3 q4)) (f1_rf (4 : Int32) (3 : Int32) (f0_v36 p1) (3 : Int32) (f0_v54 q2 q3 q4))))])) t → Steps p.tables e below (s₁.setTop (entryFrame m #[(.int p1), (.long q2), (.long q3), (.long q4)] maxLocals)) t := by
        intro t k
        refine pre5 t ?_
        show Steps p.tables e below (T51.setTop (mkF m 103 #[.val (.int p1), .val (.long q2), .second, .val (.long q3), .second, .val (.long q4), .second, .val (.int (p1 &&& (3 : Int32))), .val (.int ((p1 >>> ((2 : Int32) &&& 31)) &&& (3 : Int32))), .val (.int ((p1 >>> ((4 : Int32) &&& 31)) &&& (3 : Int32))), .val (.ref b5), .val (.ref b17), .val (.ref b33), .val (.int (f0_s0_99 p1 q2 q3 q4))] [(.int (f0_s0_99 p1 q2 q3 q4))])) _
        refine XS.ifNo X51.here hx rfl (hb hby at_103) rfl ((if0 _ _).trans (feq hc103).1) ?_
        show Steps p.tables e below (T51.setTop (mkF m 106 #[.val (.int p1), .val (.long q2), .second, .val (.long q3), .second, .val (.long q4), .second, .val (.int (p1 &&& (3 : Int32))), .val (.int ((p1 >>> ((2 : Int32) &&& 31)) &&& (3 : Int32))), .val (.int ((p1 >>> ((4 : Int32) &&& 31)) &&& (3 : Int32))), .val (.ref b5), .val (.ref b17), .val (.ref b33), .val (.int (f0_s0_99 p1 q2 q3 q4))] [])) _
        refine XS.aload X51.here hx rfl (hb hby at_106) rfl rfl ?_
        show Steps p.tables e below (T51.setTop (mkF m 108 #[.val (.int p1), .val (.long q2), .second, .val (.long q3), .second, .val (.long q4), .second, .val (.int (p1 &&& (3 : Int32))), .val (.int ((p1 >>> ((2 : Int32) &&& 31)) &&& (3 : Int32))), .val (.int ((p1 >>> ((4 : Int32) &&& 31)) &&& (3 : Int32))), .val (.ref b5), .val (.ref b17), .val (.ref b33), .val (.int (f0_s0_99 p1 q2 q3 q4))] [(.ref b33)])) _
        refine XS.iconst X51.here hx rfl (hb hby at_108) ?_
        show Steps p.tables e below (T51.setTop (mkF m 109 #[.val (.int p1), .val (.long q2), .second, .val (.long q3), .second, .val (.long q4), .second, .val (.int (p1 &&& (3 : Int32))), .val (.int ((p1 >>> ((2 : Int32) &&& 31)) &&& (3 : Int32))), .val (.int ((p1 >>> ((4 : Int32) &&& 31)) &&& (3 : Int32))), .val (.ref b5), .val (.ref b17), .val (.ref b33), .val (.int (f0_s0_99 p1 q2 q3 q4))] [(.int (1 : Int32)), (.ref b33)])) _
        refine st52.trans ?_
        show Steps p.tables e below (T52.setTop (mkF m 112 #[.val (.int p1), .val (.long q2), .second, .val (.long q3), .second, .val (.long q4), .second, .val (.int (p1 &&& (3 : Int32))), .val (.int ((p1 >>> ((2 : Int32) &&& 31)) &&& (3 : Int32))), .val (.int ((p1 >>> ((4 : Int32) &&& 31)) &&& (3 : Int32))), .val (.ref b5), .val (.ref b17), .val (.ref b33), .val (.int (f0_s0_99 p1 q2 q3 q4))] [(.int (f9 (1 : Int32) (f1_x0n (4 : Int32) (3 : Int32) (f0_v36 p1) (3 : Int32) (f0_v54 q2 q3 q4)) (f1_x0c (4 : Int32) (3 : Int32) (f0_v36 p1) (3 : Int32) (f0_v54 q2 q3 q4)) (f1_rn (4 : Int32) (3 : Int32) (f0_v36 p1) (3 : Int32) (f0_v54 q2 q3 q4)) (f1_rf (4 : Int32) (3 : Int32) (f0_v36 p1) (3 : Int32) (f0_v54 q2 q3 q4))))])) _
        refine XS.iconst X52.here hx rfl (hb hby at_112) ?_
        show Steps p.tables e below (T52.setTop (mkF m 113 #[.val (.int p1), .val (.long q2), .second, .val (.long q3), .second, .val (.long q4), .second, .val (.int (p1 &&& (3 : Int32))), .val (.int ((p1 >>> ((2 : Int32) &&& 31)) &&& (3 : Int32))), .val (.int ((p1 >>> ((4 : Int32) &&& 31)) &&& (3 : Int32))), .val (.ref b5), .val (.ref b17), .val (.ref b33), .val (.int (f0_s0_99 p1 q2 q3 q4))] [(.int (1 : Int32)), (.int (f9 (1 : Int32) (f1_x0n (4 : Int32) (3 : Int32) (f0_v36 p1) (3 : Int32) (f0_v54 q2 q3 q4)) (f1_x0c (4 : Int32) (3 : Int32) (f0_v36 p1) (3 : Int32) (f0_v54 q2 q3 q4)) (f1_rn (4 : Int32) (3 : Int32) (f0_v36 p1) (3 : Int32) (f0_v54 q2 q3 q4)) (f1_rf (4 : Int32) (3 : Int32) (f0_v36 p1) (3 : Int32) (f0_v54 q2 q3 q4))))])) _
        refine XS.iload X52.here hx rfl (hb hby at_113) rfl ?_
        show Steps p.tables e below (T52.setTop (mkF m 115 #[.val (.int p1), .val (.long q2), .second, .val (.long q3), .second, .val (.long q4), .second, .val (.int (p1 &&& (3 : Int32))), .val (.int ((p1 >>> ((2 : Int32) &&& 31)) &&& (3 : Int32))), .val (.int ((p1 >>> ((4 : Int32) &&& 31)) &&& (3 : Int32))), .val (.ref b5), .val (.ref b17), .val (.ref b33), .val (.int (f0_s0_99 p1 q2 q3 q4))] [(.int (p1 &&& (3 : Int32))), (.int (1 : Int32)), (.int (f9 (1 : Int32) (f1_x0n (4 : Int32) (3 : Int32) (f0_v36 p1) (3 : Int32) (f0_v54 q2 q3 q4)) (f1_x0c (4 : Int32) (3 : Int32) (f0_v36 p1) (3 : Int32) (f0_v54 q2 q3 q4)) (f1_rn (4 : Int32) (3 : Int32) (f0_v36 p1) (3 : Int32) (f0_v54 q2 q3 q4)) (f1_rf (4 : Int32) (3 : Int32) (f0_v36 p1) (3 : Int32) (f0_v54 q2 q3 q4))))])) _
        refine XS.iload X52.here hx rfl (hb hby at_115) rfl ?_
        show Steps p.tables e below (T52.setTop (mkF m 117 #[.val (.int p1), .val (.long q2), .second, .val (.long q3), .second, .val (.long q4), .second, .val (.int (p1 &&& (3 : Int32))), .val (.int ((p1 >>> ((2 : Int32) &&& 31)) &&& (3 : Int32))), .val (.int ((p1 >>> ((4 : Int32) &&& 31)) &&& (3 : Int32))), .val (.ref b5), .val (.ref b17), .val (.ref b33), .val (.int (f0_s0_99 p1 q2 q3 q4))] [(.int ((p1 >>> ((2 : Int32) &&& 31)) &&& (3 : Int32))), (.int (p1 &&& (3 : Int32))), (.int (1 : Int32)), (.int (f9 (1 : Int32) (f1_x0n (4 : Int32) (3 : Int32) (f0_v36 p1) (3 : Int32) (f0_v54 q2 q3 q4)) (f1_x0c (4 : Int32) (3 : Int32) (f0_v36 p1) (3 : Int32) (f0_v54 q2 q3 q4)) (f1_rn (4 : Int32) (3 : Int32) (f0_v36 p1) (3 : Int32) (f0_v54 q2 q3 q4)) (f1_rf (4 : Int32) (3 : Int32) (f0_v36 p1) (3 : Int32) (f0_v54 q2 q3 q4))))])) _
        refine XS.iload X52.here hx rfl (hb hby at_117) rfl ?_
        show Steps p.tables e below (T52.setTop (mkF m 119 #[.val (.int p1), .val (.long q2), .second, .val (.long q3), .second, .val (.long q4), .second, .val (.int (p1 &&& (3 : Int32))), .val (.int ((p1 >>> ((2 : Int32) &&& 31)) &&& (3 : Int32))), .val (.int ((p1 >>> ((4 : Int32) &&& 31)) &&& (3 : Int32))), .val (.ref b5), .val (.ref b17), .val (.ref b33), .val (.int (f0_s0_99 p1 q2 q3 q4))] [(.int ((p1 >>> ((4 : Int32) &&& 31)) &&& (3 : Int32))), (.int ((p1 >>> ((2 : Int32) &&& 31)) &&& (3 : Int32))), (.int (p1 &&& (3 : Int32))), (.int (1 : Int32)), (.int (f9 (1 : Int32) (f1_x0n (4 : Int32) (3 : Int32) (f0_v36 p1) (3 : Int32) (f0_v54 q2 q3 q4)) (f1_x0c (4 : Int32) (3 : Int32) (f0_v36 p1) (3 : Int32) (f0_v54 q2 q3 q4)) (f1_rn (4 : Int32) (3 : Int32) (f0_v36 p1) (3 : Int32) (f0_v54 q2 q3 q4)) (f1_rf (4 : Int32) (3 : Int32) (f0_v36 p1) (3 : Int32) (f0_v54 q2 q3 q4))))])) _
        refine XS.lloadN X52.here hx rfl (hb hby at_119) rfl ?_
        show Steps p.tables e below (T52.setTop (mkF m 120 #[.val (.int p1), .val (.long q2), .second, .val (.long q3), .second, .val (.long q4), .second, .val (.int (p1 &&& (3 : Int32))), .val (.int ((p1 >>> ((2 : Int32) &&& 31)) &&& (3 : Int32))), .val (.int ((p1 >>> ((4 : Int32) &&& 31)) &&& (3 : Int32))), .val (.ref b5), .val (.ref b17), .val (.ref b33), .val (.int (f0_s0_99 p1 q2 q3 q4))] [(.long q2), (.int ((p1 >>> ((4 : Int32) &&& 31)) &&& (3 : Int32))), (.int ((p1 >>> ((2 : Int32) &&& 31)) &&& (3 : Int32))), (.int (p1 &&& (3 : Int32))), (.int (1 : Int32)), (.int (f9 (1 : Int32) (f1_x0n (4 : Int32) (3 : Int32) (f0_v36 p1) (3 : Int32) (f0_v54 q2 q3 q4)) (f1_x0c (4 : Int32) (3 : Int32) (f0_v36 p1) (3 : Int32) (f0_v54 q2 q3 q4)) (f1_rn (4 : Int32) (3 : Int32) (f0_v36 p1) (3 : Int32) (f0_v54 q2 q3 q4)) (f1_rf (4 : Int32) (3 : Int32) (f0_v36 p1) (3 : Int32) (f0_v54 q2 q3 q4))))])) _
        refine XS.lloadN X52.here hx rfl (hb hby at_120) rfl ?_
        show Steps p.tables e below (T52.setTop (mkF m 121 #[.val (.int p1), .val (.long q2), .second, .val (.long q3), .second, .val (.long q4), .second, .val (.int (p1 &&& (3 : Int32))), .val (.int ((p1 >>> ((2 : Int32) &&& 31)) &&& (3 : Int32))), .val (.int ((p1 >>> ((4 : Int32) &&& 31)) &&& (3 : Int32))), .val (.ref b5), .val (.ref b17), .val (.ref b33), .val (.int (f0_s0_99 p1 q2 q3 q4))] [(.long q3), (.long q2), (.int ((p1 >>> ((4 : Int32) &&& 31)) &&& (3 : Int32))), (.int ((p1 >>> ((2 : Int32) &&& 31)) &&& (3 : Int32))), (.int (p1 &&& (3 : Int32))), (.int (1 : Int32)), (.int (f9 (1 : Int32) (f1_x0n (4 : Int32) (3 : Int32) (f0_v36 p1) (3 : Int32) (f0_v54 q2 q3 q4)) (f1_x0c (4 : Int32) (3 : Int32) (f0_v36 p1) (3 : Int32) (f0_v54 q2 q3 q4)) (f1_rn (4 : Int32) (3 : Int32) (f0_v36 p1) (3 : Int32) (f0_v54 q2 q3 q4)) (f1_rf (4 : Int32) (3 : Int32) (f0_v36 p1) (3 : Int32) (f0_v54 q2 q3 q4))))])) _
        refine XS.lload X52.here hx rfl (hb hby at_121) rfl ?_
        show Steps p.tables e below (T52.setTop (mkF m 123 #[.val (.int p1), .val (.long q2), .second, .val (.long q3), .second, .val (.long q4), .second, .val (.int (p1 &&& (3 : Int32))), .val (.int ((p1 >>> ((2 : Int32) &&& 31)) &&& (3 : Int32))), .val (.int ((p1 >>> ((4 : Int32) &&& 31)) &&& (3 : Int32))), .val (.ref b5), .val (.ref b17), .val (.ref b33), .val (.int (f0_s0_99 p1 q2 q3 q4))] [(.long q4), (.long q3), (.long q2), (.int ((p1 >>> ((4 : Int32) &&& 31)) &&& (3 : Int32))), (.int ((p1 >>> ((2 : Int32) &&& 31)) &&& (3 : Int32))), (.int (p1 &&& (3 : Int32))), (.int (1 : Int32)), (.int (f9 (1 : Int32) (f1_x0n (4 : Int32) (3 : Int32) (f0_v36 p1) (3 : Int32) (f0_v54 q2 q3 q4)) (f1_x0c (4 : Int32) (3 : Int32) (f0_v36 p1) (3 : Int32) (f0_v54 q2 q3 q4)) (f1_rn (4 : Int32) (3 : Int32) (f0_v36 p1) (3 : Int32) (f0_v54 q2 q3 q4)) (f1_rf (4 : Int32) (3 : Int32) (f0_v36 p1) (3 : Int32) (f0_v54 q2 q3 q4))))])) _
        refine st53 _ ?_
        exact k
      by_cases hc126 : (f9 (1 : Int32) (f1_x0n (4 : Int32) (3 : Int32) (f0_v36 p1) (3 : Int32) (f0_v54 q2 q3 q4)) (f1_x0c (4 : Int32) (3 : Int32) (f0_v36 p1) (3 : Int32) (f0_v54 q2 q3 q4)) (f1_rn (4 : Int32) (3 : Int32) (f0_v36 p1) (3 : Int32) (f0_v54 q2 q3 q4)) (f1_rf (4 : Int32) (3 : Int32) (f0_v36 p1) (3 : Int32) (f0_v54 q2 q3 q4))) = (f10 (1 : Int32) (p1 &&& (3 : Int32)) ((p1 >>> ((2 : Int32) &&& 31)) &&& (3 : Int32)) ((p1 >>> ((4 : Int32) &&& 31)) &&& (3 : Int32)) q2 q3 q4)
      · have eq9 := (show (f0_s0_134 p1 q2 q3 q4) = (1 : Int32) from by unfold f0_s0_134; simp only [if_neg hc103, if_pos hc126])
        refine ⟨T53, _, X53, e53, N53, fun t k => ?_⟩
        try rw [eq9] at k
        refine pre8 t ?_
        show Steps p.tables e below (T53.setTop (mkF m 126 #[.val (.int p1), .val (.long q2), .second, .val (.long q3), .second, .val (.long q4), .second, .val (.int (p1 &&& (3 : Int32))), .val (.int ((p1 >>> ((2 : Int32) &&& 31)) &&& (3 : Int32))), .val (.int ((p1 >>> ((4 : Int32) &&& 31)) &&& (3 : Int32))), .val (.ref b5), .val (.ref b17), .val (.ref b33), .val (.int (f0_s0_99 p1 q2 q3 q4))] [(.int (f10 (1 : Int32) (p1 &&& (3 : Int32)) ((p1 >>> ((2 : Int32) &&& 31)) &&& (3 : Int32)) ((p1 >>> ((4 : Int32) &&& 31)) &&& (3 : Int32)) q2 q3 q4)), (.int (f9 (1 : Int32) (f1_x0n (4 : Int32) (3 : Int32) (f0_v36 p1) (3 : Int32) (f0_v54 q2 q3 q4)) (f1_x0c (4 : Int32) (3 : Int32) (f0_v36 p1) (3 : Int32) (f0_v54 q2 q3 q4)) (f1_rn (4 : Int32) (3 : Int32) (f0_v36 p1) (3 : Int32) (f0_v54 q2 q3 q4)) (f1_rf (4 : Int32) (3 : Int32) (f0_v36 p1) (3 : Int32) (f0_v54 q2 q3 q4))))])) _
        refine XS.icmpNo X53.here hx rfl (hb hby at_126) rfl (teq hc126).2 ?_
        show Steps p.tables e below (T53.setTop (mkF m 129 #[.val (.int p1), .val (.long q2), .second, .val (.long q3), .second, .val (.long q4), .second, .val (.int (p1 &&& (3 : Int32))), .val (.int ((p1 >>> ((2 : Int32) &&& 31)) &&& (3 : Int32))), .val (.int ((p1 >>> ((4 : Int32) &&& 31)) &&& (3 : Int32))), .val (.ref b5), .val (.ref b17), .val (.ref b33), .val (.int (f0_s0_99 p1 q2 q3 q4))] [])) _
        refine XS.iconst X53.here hx rfl (hb hby at_129) ?_
        show Steps p.tables e below (T53.setTop (mkF m 130 #[.val (.int p1), .val (.long q2), .second, .val (.long q3), .second, .val (.long q4), .second, .val (.int (p1 &&& (3 : Int32))), .val (.int ((p1 >>> ((2 : Int32) &&& 31)) &&& (3 : Int32))), .val (.int ((p1 >>> ((4 : Int32) &&& 31)) &&& (3 : Int32))), .val (.ref b5), .val (.ref b17), .val (.ref b33), .val (.int (f0_s0_99 p1 q2 q3 q4))] [(.int (1 : Int32))])) _
        refine XS.goto X53.here hx rfl (pc0 := 130) (pc' := 134) rfl (hb hby at_130) (by decide) (by decide) ?_
        exact k
      · have eq10 := (show (f0_s0_134 p1 q2 q3 q4) = (0 : Int32) from by unfold f0_s0_134; simp only [if_neg hc103, if_neg hc126])
        refine ⟨T53, _, X53, e53, N53, fun t k => ?_⟩
        try rw [eq10] at k
        refine pre8 t ?_
        show Steps p.tables e below (T53.setTop (mkF m 126 #[.val (.int p1), .val (.long q2), .second, .val (.long q3), .second, .val (.long q4), .second, .val (.int (p1 &&& (3 : Int32))), .val (.int ((p1 >>> ((2 : Int32) &&& 31)) &&& (3 : Int32))), .val (.int ((p1 >>> ((4 : Int32) &&& 31)) &&& (3 : Int32))), .val (.ref b5), .val (.ref b17), .val (.ref b33), .val (.int (f0_s0_99 p1 q2 q3 q4))] [(.int (f10 (1 : Int32) (p1 &&& (3 : Int32)) ((p1 >>> ((2 : Int32) &&& 31)) &&& (3 : Int32)) ((p1 >>> ((4 : Int32) &&& 31)) &&& (3 : Int32)) q2 q3 q4)), (.int (f9 (1 : Int32) (f1_x0n (4 : Int32) (3 : Int32) (f0_v36 p1) (3 : Int32) (f0_v54 q2 q3 q4)) (f1_x0c (4 : Int32) (3 : Int32) (f0_v36 p1) (3 : Int32) (f0_v54 q2 q3 q4)) (f1_rn (4 : Int32) (3 : Int32) (f0_v36 p1) (3 : Int32) (f0_v54 q2 q3 q4)) (f1_rf (4 : Int32) (3 : Int32) (f0_v36 p1) (3 : Int32) (f0_v54 q2 q3 q4))))])) _
        refine XS.icmpYes X53.here hx rfl (pc0 := 126) (pc' := 133) rfl (hb hby at_126) rfl (feq hc126).2 (by decide) (by decide) ?_
        show Steps p.tables e below (T53.setTop (mkF m 133 #[.val (.int p1), .val (.long q2), .second, .val (.long q3), .second, .val (.long q4), .second, .val (.int (p1 &&& (3 : Int32))), .val (.int ((p1 >>> ((2 : Int32) &&& 31)) &&& (3 : Int32))), .val (.int ((p1 >>> ((4 : Int32) &&& 31)) &&& (3 : Int32))), .val (.ref b5), .val (.ref b17), .val (.ref b33), .val (.int (f0_s0_99 p1 q2 q3 q4))] [])) _
        refine XS.iconst X53.here hx rfl (hb hby at_133) ?_
        exact k
  have pre11 : ∀ t, Steps p.tables e below (T54.setTop (mkF m 138 #[.val (.int p1), .val (.long q2), .second, .val (.long q3), .second, .val (.long q4), .second, .val (.int (p1 &&& (3 : Int32))), .val (.int ((p1 >>> ((2 : Int32) &&& 31)) &&& (3 : Int32))), .val (.int ((p1 >>> ((4 : Int32) &&& 31)) &&& (3 : Int32))), .val (.ref b5), .val (.ref b17), .val (.ref b33), .val (.int (f0_s0_134 p1 q2 q3 q4))] [(.int (f0_s0_134 p1 q2 q3 q4))])) t → Steps p.tables e below (s₁.setTop (entryFrame m #[(.int p1), (.long q2), (.long q3), (.long q4)] maxLocals)) t := by
    intro t k
    refine pre6 t ?_
    show Steps p.tables e below (T54.setTop (mkF m 134 #[.val (.int p1), .val (.long q2), .second, .val (.long q3), .second, .val (.long q4), .second, .val (.int (p1 &&& (3 : Int32))), .val (.int ((p1 >>> ((2 : Int32) &&& 31)) &&& (3 : Int32))), .val (.int ((p1 >>> ((4 : Int32) &&& 31)) &&& (3 : Int32))), .val (.ref b5), .val (.ref b17), .val (.ref b33), .val (.int (f0_s0_99 p1 q2 q3 q4))] [(.int (f0_s0_134 p1 q2 q3 q4))])) _
    refine XS.istore X54.here hx rfl (hb hby at_134) rfl (l' := #[.val (.int p1), .val (.long q2), .second, .val (.long q3), .second, .val (.long q4), .second, .val (.int (p1 &&& (3 : Int32))), .val (.int ((p1 >>> ((2 : Int32) &&& 31)) &&& (3 : Int32))), .val (.int ((p1 >>> ((4 : Int32) &&& 31)) &&& (3 : Int32))), .val (.ref b5), .val (.ref b17), .val (.ref b33), .val (.int (f0_s0_134 p1 q2 q3 q4))]) rfl ?_
    show Steps p.tables e below (T54.setTop (mkF m 136 #[.val (.int p1), .val (.long q2), .second, .val (.long q3), .second, .val (.long q4), .second, .val (.int (p1 &&& (3 : Int32))), .val (.int ((p1 >>> ((2 : Int32) &&& 31)) &&& (3 : Int32))), .val (.int ((p1 >>> ((4 : Int32) &&& 31)) &&& (3 : Int32))), .val (.ref b5), .val (.ref b17), .val (.ref b33), .val (.int (f0_s0_134 p1 q2 q3 q4))] [])) _
    refine XS.iload X54.here hx rfl (hb hby at_136) rfl ?_
    exact k
  obtain ⟨T57, Lmpre12, X57, e57, N57, pre12⟩ : ∃ (T' : State) (L' : List Loc), Stand p l e room_1 s m #[(.int p1), (.long q2), (.long q3), (.long q4)] below meth c T' L' 12 30 ∧ T'.heap = T41.heap ∧ Fr n0 L' ∧ ∀ t, Steps p.tables e below (T'.setTop (mkF m 169 #[.val (.int p1), .val (.long q2), .second, .val (.long q3), .second, .val (.long q4), .second, .val (.int (p1 &&& (3 : Int32))), .val (.int ((p1 >>> ((2 : Int32) &&& 31)) &&& (3 : Int32))), .val (.int ((p1 >>> ((4 : Int32) &&& 31)) &&& (3 : Int32))), .val (.ref b5), .val (.ref b17), .val (.ref b33), .val (.int (f0_s0_134 p1 q2 q3 q4))] [(.int (f0_s0_169 p1 q2 q3 q4))])) t → Steps p.tables e below (s₁.setTop (entryFrame m #[(.int p1), (.long q2), (.long q3), (.long q4)] maxLocals)) t := by
    by_cases hc138 : (f0_s0_134 p1 q2 q3 q4) = (0 : Int32)
    · have eq13 := (show (f0_s0_169 p1 q2 q3 q4) = (0 : Int32) from by unfold f0_s0_169; simp only [if_pos hc138])
      refine ⟨T54, _, X54, e54, N54, fun t k => ?_⟩
      try rw [eq13] at k
      refine pre11 t ?_
      show Steps p.tables e below (T54.setTop (mkF m 138 #[.val (.int p1), .val (.long q2), .second, .val (.long q3), .second, .val (.long q4), .second, .val (.int (p1 &&& (3 : Int32))), .val (.int ((p1 >>> ((2 : Int32) &&& 31)) &&& (3 : Int32))), .val (.int ((p1 >>> ((4 : Int32) &&& 31)) &&& (3 : Int32))), .val (.ref b5), .val (.ref b17), .val (.ref b33), .val (.int (f0_s0_134 p1 q2 q3 q4))] [(.int (f0_s0_134 p1 q2 q3 q4))])) _
      refine XS.ifYes X54.here hx rfl (pc0 := 138) (pc' := 168) rfl (hb hby at_138) rfl ((if0 _ _).trans (teq hc138).1) (by decide) (by decide) ?_
      show Steps p.tables e below (T54.setTop (mkF m 168 #[.val (.int p1), .val (.long q2), .second, .val (.long q3), .second, .val (.long q4), .second, .val (.int (p1 &&& (3 : Int32))), .val (.int ((p1 >>> ((2 : Int32) &&& 31)) &&& (3 : Int32))), .val (.int ((p1 >>> ((4 : Int32) &&& 31)) &&& (3 : Int32))), .val (.ref b5), .val (.ref b17), .val (.ref b33), .val (.int (f0_s0_134 p1 q2 q3 q4))] [])) _
      refine XS.iconst X54.here hx rfl (hb hby at_168) ?_
      exact k
    · obtain ⟨cq55, kq55, q55a, q55b, q55c⟩ := isOf hZ e54 c45
      obtain ⟨_, _, ⟨T55, L55, k55, n55⟩, -, X55, ⟨Lc55, hQ55, l55, y55, z55⟩, st55⟩ := X54.virtualBack hx (y := (⟨"com/example/podflow/podflow/simulation/Arrivals", "first", "(I)I"⟩ : MethodName)) (z := (⟨"com/example/podflow/podflow/simulation/Arrivals", "first", "(I)I"⟩ : MethodName)) hown (mvT hZ (hw _ (List.mem_of_getElem? (i := 49) rfl))) (mvT hZ (hw _ (List.mem_of_getElem? (i := 50) rfl))) (notFace_of_selects (args := #[]) (mvT hZ (hw _ (List.mem_of_getElem? (i := 52) rfl)))) (mvT hZ (hw _ (List.mem_of_getElem? (i := 52) rfl))) (mvT hZ (hw _ (List.mem_of_getElem? (i := 51) rfl))) (by decide) (backOf (W := 0) (rm9 l Z a0 hw [] b33 (2 : Int32) b5 b17 r41_1 r41_0 (f1_x0n (4 : Int32) (3 : Int32) (f0_v36 p1) (3 : Int32) (f0_v54 q2 q3 q4)) (f1_x0c (4 : Int32) (3 : Int32) (f0_v36 p1) (3 : Int32) (f0_v54 q2 q3 q4)) cO41 (f1_rn (4 : Int32) (3 : Int32) (f0_v36 p1) (3 : Int32) (f0_v54 q2 q3 q4)) (f1_rf (4 : Int32) (3 : Int32) (f0_v36 p1) (3 : Int32) (f0_v54 q2 q3 q4)) h33.size T41.heap n0 c42 c46 c47 c48 c49 va41_0 oO41 c34 (by decide) rfl (own_JL p1 q2 q3 q4)) hZ (hw _ (List.mem_of_getElem? (i := 53) rfl)) (hw _ (List.mem_of_getElem? (i := 4) rfl)) (by decide) (by decide)) q55a q55c (g := (mkF m 144 #[.val (.int p1), .val (.long q2), .second, .val (.long q3), .second, .val (.long q4), .second, .val (.int (p1 &&& (3 : Int32))), .val (.int ((p1 >>> ((2 : Int32) &&& 31)) &&& (3 : Int32))), .val (.int ((p1 >>> ((4 : Int32) &&& 31)) &&& (3 : Int32))), .val (.ref b5), .val (.ref b17), .val (.ref b33), .val (.int (f0_s0_134 p1 q2 q3 q4))] [(.int (2 : Int32)), (.ref b33)])) rfl (by rw [hml]; rfl) (Steps.refl _) (argsL := [(.int (2 : Int32))]) (rest := []) (lenOf pd_6 rfl) rfl (by show 2 * 0 + _ ≤ _; exact Nat.le_of_eq rfl) (hb hby at_144) (fun _ _ => ⟨rfl, e54, (by decide : 12 + 0 ≤ _), (by decide : 30 + 0 ≤ _)⟩)
      dsimp only [Pt.U, Pt.locs, Pt.cells, Pt.slots] at X55 l55 y55 z55 st55 hQ55
      subst l55 y55 z55
      obtain ⟨rfl, N55q, e55⟩ := hQ55
      have N55 := Fr.app N54 N55q
      obtain ⟨_, _, ⟨T56, L56, k56, n56⟩, -, X56, ⟨Lc56, hQ56, l56, y56, z56⟩, st56⟩ := Jvm.LawKit.callS X55 hx (y := (⟨"com/example/podflow/podflow/simulation/ArrivalsFirstPinLaw", "ref", "(IIIIJJJ)I"⟩ : MethodName)) hown (mvT hZ (hw _ (List.mem_of_getElem? (i := 54) rfl))) (mvT hZ (hw _ (List.mem_of_getElem? (i := 55) rfl))) (mvT hZ (hw _ (List.mem_of_getElem? (i := 56) rfl))) (mvT hZ (hw _ (List.mem_of_getElem? (i := 57) rfl))) (by decide) (backOf (W := 1) (rm10 l Z a0 hw [] (2 : Int32) (p1 &&& (3 : Int32)) ((p1 >>> ((2 : Int32) &&& 31)) &&& (3 : Int32)) ((p1 >>> ((4 : Int32) &&& 31)) &&& (3 : Int32)) q2 q3 q4 T41.heap n0 c42 ) hZ (hw _ (List.mem_of_getElem? (i := 57) rfl)) (hw _ (List.mem_of_getElem? (i := 56) rfl)) (by decide) (by decide)) (g := (mkF m 158 #[.val (.int p1), .val (.long q2), .second, .val (.long q3), .second, .val (.long q4), .second, .val (.int (p1 &&& (3 : Int32))), .val (.int ((p1 >>> ((2 : Int32) &&& 31)) &&& (3 : Int32))), .val (.int ((p1 >>> ((4 : Int32) &&& 31)) &&& (3 : Int32))), .val (.ref b5), .val (.ref b17), .val (.ref b33), .val (.int (f0_s0_134 p1 q2 q3 q4))] [(.long q4), (.long q3), (.long q2), (.int ((p1 >>> ((4 : Int32) &&& 31)) &&& (3 : Int32))), (.int ((p1 >>> ((2 : Int32) &&& 31)) &&& (3 : Int32))), (.int (p1 &&& (3 : Int32))), (.int (2 : Int32)), (.int (f9 (2 : Int32) (f1_x0n (4 : Int32) (3 : Int32) (f0_v36 p1) (3 : Int32) (f0_v54 q2 q3 q4)) (f1_x0c (4 : Int32) (3 : Int32) (f0_v36 p1) (3 : Int32) (f0_v54 q2 q3 q4)) (f1_rn (4 : Int32) (3 : Int32) (f0_v36 p1) (3 : Int32) (f0_v54 q2 q3 q4)) (f1_rf (4 : Int32) (3 : Int32) (f0_v36 p1) (3 : Int32) (f0_v54 q2 q3 q4))))])) rfl (by rw [hml]; rfl) (argsL := [(.int (2 : Int32)), (.int (p1 &&& (3 : Int32))), (.int ((p1 >>> ((2 : Int32) &&& 31)) &&& (3 : Int32))), (.int ((p1 >>> ((4 : Int32) &&& 31)) &&& (3 : Int32))), (.long q2), (.long q3), (.long q4)]) (rest := [(.int (f9 (2 : Int32) (f1_x0n (4 : Int32) (3 : Int32) (f0_v36 p1) (3 : Int32) (f0_v54 q2 q3 q4)) (f1_x0c (4 : Int32) (3 : Int32) (f0_v36 p1) (3 : Int32) (f0_v54 q2 q3 q4)) (f1_rn (4 : Int32) (3 : Int32) (f0_v36 p1) (3 : Int32) (f0_v54 q2 q3 q4)) (f1_rf (4 : Int32) (3 : Int32) (f0_v36 p1) (3 : Int32) (f0_v54 q2 q3 q4))))]) (lenOf pd_7 rfl) rfl (by show 2 * 0 + _ ≤ _; exact Nat.le_of_eq rfl) (hb hby at_158) (fun _ _ => ⟨rfl, e55, (by decide : 12 + 0 ≤ _), (by decide : 30 + 0 ≤ _)⟩)
      dsimp only [Pt.U, Pt.locs, Pt.cells, Pt.slots] at X56 l56 y56 z56 st56 hQ56
      subst l56 y56 z56
      obtain ⟨rfl, N56q, e56⟩ := hQ56
      have N56 := Fr.app N55 N56q
      have pre14 : ∀ t, Steps p.tables e below (T56.setTop (mkF m 161 #[.val (.int p1), .val (.long q2), .second, .val (.long q3), .second, .val (.long q4), .second, .val (.int (p1 &&& (3 : Int32))), .val (.int ((p1 >>> ((2 : Int32) &&& 31)) &&& (3 : Int32))), .val (.int ((p1 >>> ((4 : Int32) &&& 31)) &&& (3 : Int32))), .val (.ref b5), .val (.ref b17), .val (.ref b33), .val (.int (f0_s0_134 p1 q2 q3 q4))] [(.int (f10 (2 : Int32) (p1 &&& (3 : Int32)) ((p1 >>> ((2 : Int32) &&& 31)) &&& (3 : Int32)) ((p1 >>> ((4 : Int32) &&& 31)) &&& (3 : Int32)) q2 q3 q4)), (.int (f9 (2 : Int32) (f1_x0n (4 : Int32) (3 : Int32) (f0_v36 p1) (3 : Int32) (f0_v54 q2 q3 q4)) (f1_x0c (4 : Int32) (3 : Int32) (f0_v36 p1) (3 : Int32) (f0_v54 q2 q3 q4)) (f1_rn (4 : Int32) (3 : Int32) (f0_v36 p1) (3 : Int32) (f0_v54 q2 q3 q4)) (f1_rf (4 : Int32) (3 : Int32) (f0_v36 p1) (3 : Int32) (f0_v54 q2 q3 q4))))])) t → Steps p.tables e below (s₁.setTop (entryFrame m #[(.int p1), (.long q2), (.long q3), (.long q4)] maxLocals)) t := by
        intro t k
        refine pre11 t ?_
        show Steps p.tables e below (T54.setTop (mkF m 138 #[.val (.int p1), .val (.long q2), .second, .val (.long q3), .second, .val (.long q4), .second, .val (.int (p1 &&& (3 : Int32))), .val (.int ((p1 >>> ((2 : Int32) &&& 31)) &&& (3 : Int32))), .val (.int ((p1 >>> ((4 : Int32) &&& 31)) &&& (3 : Int32))), .val (.ref b5), .val (.ref b17), .val (.ref b33), .val (.int (f0_s0_134 p1 q2 q3 q4))] [(.int (f0_s0_134 p1 q2 q3 q4))])) _
        refine XS.ifNo X54.here hx rfl (hb hby at_138) rfl ((if0 _ _).trans (feq hc138).1) ?_
        show Steps p.tables e below (T54.setTop (mkF m 141 #[.val (.int p1), .val (.long q2), .second, .val (.long q3), .second, .val (.long q4), .second, .val (.int (p1 &&& (3 : Int32))), .val (.int ((p1 >>> ((2 : Int32) &&& 31)) &&& (3 : Int32))), .val (.int ((p1 >>> ((4 : Int32) &&& 31)) &&& (3 : Int32))), .val (.ref b5), .val (.ref b17), .val (.ref b33), .val (.int (f0_s0_134 p1 q2 q3 q4))] [])) _
        refine XS.aload X54.here hx rfl (hb hby at_141) rfl rfl ?_
        show Steps p.tables e below (T54.setTop (mkF m 143 #[.val (.int p1), .val (.long q2), .second, .val (.long q3), .second, .val (.long q4), .second, .val (.int (p1 &&& (3 : Int32))), .val (.int ((p1 >>> ((2 : Int32) &&& 31)) &&& (3 : Int32))), .val (.int ((p1 >>> ((4 : Int32) &&& 31)) &&& (3 : Int32))), .val (.ref b5), .val (.ref b17), .val (.ref b33), .val (.int (f0_s0_134 p1 q2 q3 q4))] [(.ref b33)])) _
        refine XS.iconst X54.here hx rfl (hb hby at_143) ?_
        show Steps p.tables e below (T54.setTop (mkF m 144 #[.val (.int p1), .val (.long q2), .second, .val (.long q3), .second, .val (.long q4), .second, .val (.int (p1 &&& (3 : Int32))), .val (.int ((p1 >>> ((2 : Int32) &&& 31)) &&& (3 : Int32))), .val (.int ((p1 >>> ((4 : Int32) &&& 31)) &&& (3 : Int32))), .val (.ref b5), .val (.ref b17), .val (.ref b33), .val (.int (f0_s0_134 p1 q2 q3 q4))] [(.int (2 : Int32)), (.ref b33)])) _
        refine st55.trans ?_
        show Steps p.tables e below (T55.setTop (mkF m 147 #[.val (.int p1), .val (.long q2), .second, .val (.long q3), .second, .val (.long q4), .second, .val (.int (p1 &&& (3 : Int32))), .val (.int ((p1 >>> ((2 : Int32) &&& 31)) &&& (3 : Int32))), .val (.int ((p1 >>> ((4 : Int32) &&& 31)) &&& (3 : Int32))), .val (.ref b5), .val (.ref b17), .val (.ref b33), .val (.int (f0_s0_134 p1 q2 q3 q4))] [(.int (f9 (2 : Int32) (f1_x0n (4 : Int32) (3 : Int32) (f0_v36 p1) (3 : Int32) (f0_v54 q2 q3 q4)) (f1_x0c (4 : Int32) (3 : Int32) (f0_v36 p1) (3 : Int32) (f0_v54 q2 q3 q4)) (f1_rn (4 : Int32) (3 : Int32) (f0_v36 p1) (3 : Int32) (f0_v54 q2 q3 q4)) (f1_rf (4 : Int32) (3 : Int32) (f0_v36 p1) (3 : Int32) (f0_v54 q2 q3 q4))))])) _
        refine XS.iconst X55.here hx rfl (hb hby at_147) ?_
        show Steps p.tables e below (T55.setTop (mkF m 148 #[.val (.int p1), .val (.long q2), .second, .val (.long q3), .second, .val (.long q4), .second, .val (.int (p1 &&& (3 : Int32))), .val (.int ((p1 >>> ((2 : Int32) &&& 31)) &&& (3 : Int32))), .val (.int ((p1 >>> ((4 : Int32) &&& 31)) &&& (3 : Int32))), .val (.ref b5), .val (.ref b17), .val (.ref b33), .val (.int (f0_s0_134 p1 q2 q3 q4))] [(.int (2 : Int32)), (.int (f9 (2 : Int32) (f1_x0n (4 : Int32) (3 : Int32) (f0_v36 p1) (3 : Int32) (f0_v54 q2 q3 q4)) (f1_x0c (4 : Int32) (3 : Int32) (f0_v36 p1) (3 : Int32) (f0_v54 q2 q3 q4)) (f1_rn (4 : Int32) (3 : Int32) (f0_v36 p1) (3 : Int32) (f0_v54 q2 q3 q4)) (f1_rf (4 : Int32) (3 : Int32) (f0_v36 p1) (3 : Int32) (f0_v54 q2 q3 q4))))])) _
        refine XS.iload X55.here hx rfl (hb hby at_148) rfl ?_
        show Steps p.tables e below (T55.setTop (mkF m 150 #[.val (.int p1), .val (.long q2), .second, .val (.long q3), .second, .val (.long q4), .second, .val (.int (p1 &&& (3 : Int32))), .val (.int ((p1 >>> ((2 : Int32) &&& 31)) &&& (3 : Int32))), .val (.int ((p1 >>> ((4 : Int32) &&& 31)) &&& (3 : Int32))), .val (.ref b5), .val (.ref b17), .val (.ref b33), .val (.int (f0_s0_134 p1 q2 q3 q4))] [(.int (p1 &&& (3 : Int32))), (.int (2 : Int32)), (.int (f9 (2 : Int32) (f1_x0n (4 : Int32) (3 : Int32) (f0_v36 p1) (3 : Int32) (f0_v54 q2 q3 q4)) (f1_x0c (4 : Int32) (3 : Int32) (f0_v36 p1) (3 : Int32) (f0_v54 q2 q3 q4)) (f1_rn (4 : Int32) (3 : Int32) (f0_v36 p1) (3 : Int32) (f0_v54 q2 q3 q4)) (f1_rf (4 : Int32) (3 : Int32) (f0_v36 p1) (3 : Int32) (f0_v54 q2 q3 q4))))])) _
        refine XS.iload X55.here hx rfl (hb hby at_150) rfl ?_
        show Steps p.tables e below (T55.setTop (mkF m 152 #[.val (.int p1), .val (.long q2), .second, .val (.long q3), .second, .val (.long q4), .second, .val (.int (p1 &&& (3 : Int32))), .val (.int ((p1 >>> ((2 : Int32) &&& 31)) &&& (3 : Int32))), .val (.int ((p1 >>> ((4 : Int32) &&& 31)) &&& (3 : Int32))), .val (.ref b5), .val (.ref b17), .val (.ref b33), .val (.int (f0_s0_134 p1 q2 q3 q4))] [(.int ((p1 >>> ((2 : Int32) &&& 31)) &&& (3 : Int32))), (.int (p1 &&& (3 : Int32))), (.int (2 : Int32)), (.int (f9 (2 : Int32) (f1_x0n (4 : Int32) (3 : Int32) (f0_v36 p1) (3 : Int32) (f0_v54 q2 q3 q4)) (f1_x0c (4 : Int32) (3 : Int32) (f0_v36 p1) (3 : Int32) (f0_v54 q2 q3 q4)) (f1_rn (4 : Int32) (3 : Int32) (f0_v36 p1) (3 : Int32) (f0_v54 q2 q3 q4)) (f1_rf (4 : Int32) (3 : Int32) (f0_v36 p1) (3 : Int32) (f0_v54 q2 q3 q4))))])) _
        refine XS.iload X55.here hx rfl (hb hby at_152) rfl ?_
        show Steps p.tables e below (T55.setTop (mkF m 154 #[.val (.int p1), .val (.long q2), .second, .val (.long q3), .second, .val (.long q4), .second, .val (.int (p1 &&& (3 : Int32))), .val (.int ((p1 >>> ((2 : Int32) &&& 31)) &&& (3 : Int32))), .val (.int ((p1 >>> ((4 : Int32) &&& 31)) &&& (3 : Int32))), .val (.ref b5), .val (.ref b17), .val (.ref b33), .val (.int (f0_s0_134 p1 q2 q3 q4))] [(.int ((p1 >>> ((4 : Int32) &&& 31)) &&& (3 : Int32))), (.int ((p1 >>> ((2 : Int32) &&& 31)) &&& (3 : Int32))), (.int (p1 &&& (3 : Int32))), (.int (2 : Int32)), (.int (f9 (2 : Int32) (f1_x0n (4 : Int32) (3 : Int32) (f0_v36 p1) (3 : Int32) (f0_v54 q2 q3 q4)) (f1_x0c (4 : Int32) (3 : Int32) (f0_v36 p1) (3 : Int32) (f0_v54 q2 q3 q4)) (f1_rn (4 : Int32) (3 : Int32) (f0_v36 p1) (3 : Int32) (f0_v54 q2 q3 q4)) (f1_rf (4 : Int32) (3 : Int32) (f0_v36 p1) (3 : Int32) (f0_v54 q2 q3 q4))))])) _
        refine XS.lloadN X55.here hx rfl (hb hby at_154) rfl ?_
        show Steps p.tables e below (T55.setTop (mkF m 155 #[.val (.int p1), .val (.long q2), .second, .val (.long q3), .second, .val (.long q4), .second, .val (.int (p1 &&& (3 : Int32))), .val (.int ((p1 >>> ((2 : Int32) &&& 31)) &&& (3 : Int32))), .val (.int ((p1 >>> ((4 : Int32) &&& 31)) &&& (3 : Int32))), .val (.ref b5), .val (.ref b17), .val (.ref b33), .val (.int (f0_s0_134 p1 q2 q3 q4))] [(.long q2), (.int ((p1 >>> ((4 : Int32) &&& 31)) &&& (3 : Int32))), (.int ((p1 >>> ((2 : Int32) &&& 31)) &&& (3 : Int32))), (.int (p1 &&& (3 : Int32))), (.int (2 : Int32)), (.int (f9 (2 : Int32) (f1_x0n (4 : Int32) (3 : Int32) (f0_v36 p1) (3 : Int32) (f0_v54 q2 q3 q4)) (f1_x0c (4 : Int32) (3 : Int32) (f0_v36 p1) (3 : Int32) (f0_v54 q2 q3 q4)) (f1_rn (4 : Int32) (3 : Int32) (f0_v36 p1) (3 : Int32) (f0_v54 q2 q3 q4)) (f1_rf (4 : Int32) (3 : Int32) (f0_v36 p1) (3 : Int32) (f0_v54 q2 q3 q4))))])) _
        refine XS.lloadN X55.here hx rfl (hb hby at_155) rfl ?_
        show Steps p.tables e below (T55.setTop (mkF m 156 #[.val (.int p1), .val (.long q2), .second, .val (.long q3), .second, .val (.long q4), .second, .val (.int (p1 &&& (3 : Int32))), .val (.int ((p1 >>> ((2 : Int32) &&& 31)) &&& (3 : Int32))), .val (.int ((p1 >>> ((4 : Int32) &&& 31)) &&& (3 : Int32))), .val (.ref b5), .val (.ref b17), .val (.ref b33), .val (.int (f0_s0_134 p1 q2 q3 q4))] [(.long q3), (.long q2), (.int ((p1 >>> ((4 : Int32) &&& 31)) &&& (3 : Int32))), (.int ((p1 >>> ((2 : Int32) &&& 31)) &&& (3 : Int32))), (.int (p1 &&& (3 : Int32))), (.int (2 : Int32)), (.int (f9 (2 : Int32) (f1_x0n (4 : Int32) (3 : Int32) (f0_v36 p1) (3 : Int32) (f0_v54 q2 q3 q4)) (f1_x0c (4 : Int32) (3 : Int32) (f0_v36 p1) (3 : Int32) (f0_v54 q2 q3 q4)) (f1_rn (4 : Int32) (3 : Int32) (f0_v36 p1) (3 : Int32) (f0_v54 q2 q3 q4)) (f1_rf (4 : Int32) (3 : Int32) (f0_v36 p1) (3 : Int32) (f0_v54 q2 q3 q4))))])) _
        refine XS.lload X55.here hx rfl (hb hby at_156) rfl ?_
        show Steps p.tables e below (T55.setTop (mkF m 158 #[.val (.int p1), .val (.long q2), .second, .val (.long q3), .second, .val (.long q4), .second, .val (.int (p1 &&& (3 : Int32))), .val (.int ((p1 >>> ((2 : Int32) &&& 31)) &&& (3 : Int32))), .val (.int ((p1 >>> ((4 : Int32) &&& 31)) &&& (3 : Int32))), .val (.ref b5), .val (.ref b17), .val (.ref b33), .val (.int (f0_s0_134 p1 q2 q3 q4))] [(.long q4), (.long q3), (.long q2), (.int ((p1 >>> ((4 : Int32) &&& 31)) &&& (3 : Int32))), (.int ((p1 >>> ((2 : Int32) &&& 31)) &&& (3 : Int32))), (.int (p1 &&& (3 : Int32))), (.int (2 : Int32)), (.int (f9 (2 : Int32) (f1_x0n (4 : Int32) (3 : Int32) (f0_v36 p1) (3 : Int32) (f0_v54 q2 q3 q4)) (f1_x0c (4 : Int32) (3 : Int32) (f0_v36 p1) (3 : Int32) (f0_v54 q2 q3 q4)) (f1_rn (4 : Int32) (3 : Int32) (f0_v36 p1) (3 : Int32) (f0_v54 q2 q3 q4)) (f1_rf (4 : Int32) (3 : Int32) (f0_v36 p1) (3 : Int32) (f0_v54 q2 q3 q4))))])) _
        refine st56 _ ?_
        exact k
      by_cases hc161 : (f9 (2 : Int32) (f1_x0n (4 : Int32) (3 : Int32) (f0_v36 p1) (3 : Int32) (f0_v54 q2 q3 q4)) (f1_x0c (4 : Int32) (3 : Int32) (f0_v36 p1) (3 : Int32) (f0_v54 q2 q3 q4)) (f1_rn (4 : Int32) (3 : Int32) (f0_v36 p1) (3 : Int32) (f0_v54 q2 q3 q4)) (f1_rf (4 : Int32) (3 : Int32) (f0_v36 p1) (3 : Int32) (f0_v54 q2 q3 q4))) = (f10 (2 : Int32) (p1 &&& (3 : Int32)) ((p1 >>> ((2 : Int32) &&& 31)) &&& (3 : Int32)) ((p1 >>> ((4 : Int32) &&& 31)) &&& (3 : Int32)) q2 q3 q4)
      · have eq15 := (show (f0_s0_169 p1 q2 q3 q4) = (1 : Int32) from by unfold f0_s0_169; simp only [if_neg hc138, if_pos hc161])
        refine ⟨T56, _, X56, e56, N56, fun t k => ?_⟩
        try rw [eq15] at k
        refine pre14 t ?_
        show Steps p.tables e below (T56.setTop (mkF m 161 #[.val (.int p1), .val (.long q2), .second, .val (.long q3), .second, .val (.long q4), .second, .val (.int (p1 &&& (3 : Int32))), .val (.int ((p1 >>> ((2 : Int32) &&& 31)) &&& (3 : Int32))), .val (.int ((p1 >>> ((4 : Int32) &&& 31)) &&& (3 : Int32))), .val (.ref b5), .val (.ref b17), .val (.ref b33), .val (.int (f0_s0_134 p1 q2 q3 q4))] [(.int (f10 (2 : Int32) (p1 &&& (3 : Int32)) ((p1 >>> ((2 : Int32) &&& 31)) &&& (3 : Int32)) ((p1 >>> ((4 : Int32) &&& 31)) &&& (3 : Int32)) q2 q3 q4)), (.int (f9 (2 : Int32) (f1_x0n (4 : Int32) (3 : Int32) (f0_v36 p1) (3 : Int32) (f0_v54 q2 q3 q4)) (f1_x0c (4 : Int32) (3 : Int32) (f0_v36 p1) (3 : Int32) (f0_v54 q2 q3 q4)) (f1_rn (4 : Int32) (3 : Int32) (f0_v36 p1) (3 : Int32) (f0_v54 q2 q3 q4)) (f1_rf (4 : Int32) (3 : Int32) (f0_v36 p1) (3 : Int32) (f0_v54 q2 q3 q4))))])) _
        refine XS.icmpNo X56.here hx rfl (hb hby at_161) rfl (teq hc161).2 ?_
        show Steps p.tables e below (T56.setTop (mkF m 164 #[.val (.int p1), .val (.long q2), .second, .val (.long q3), .second, .val (.long q4), .second, .val (.int (p1 &&& (3 : Int32))), .val (.int ((p1 >>> ((2 : Int32) &&& 31)) &&& (3 : Int32))), .val (.int ((p1 >>> ((4 : Int32) &&& 31)) &&& (3 : Int32))), .val (.ref b5), .val (.ref b17), .val (.ref b33), .val (.int (f0_s0_134 p1 q2 q3 q4))] [])) _
        refine XS.iconst X56.here hx rfl (hb hby at_164) ?_
        show Steps p.tables e below (T56.setTop (mkF m 165 #[.val (.int p1), .val (.long q2), .second, .val (.long q3), .second, .val (.long q4), .second, .val (.int (p1 &&& (3 : Int32))), .val (.int ((p1 >>> ((2 : Int32) &&& 31)) &&& (3 : Int32))), .val (.int ((p1 >>> ((4 : Int32) &&& 31)) &&& (3 : Int32))), .val (.ref b5), .val (.ref b17), .val (.ref b33), .val (.int (f0_s0_134 p1 q2 q3 q4))] [(.int (1 : Int32))])) _
        refine XS.goto X56.here hx rfl (pc0 := 165) (pc' := 169) rfl (hb hby at_165) (by decide) (by decide) ?_
        exact k
      · have eq16 := (show (f0_s0_169 p1 q2 q3 q4) = (0 : Int32) from by unfold f0_s0_169; simp only [if_neg hc138, if_neg hc161])
        refine ⟨T56, _, X56, e56, N56, fun t k => ?_⟩
        try rw [eq16] at k
        refine pre14 t ?_
        show Steps p.tables e below (T56.setTop (mkF m 161 #[.val (.int p1), .val (.long q2), .second, .val (.long q3), .second, .val (.long q4), .second, .val (.int (p1 &&& (3 : Int32))), .val (.int ((p1 >>> ((2 : Int32) &&& 31)) &&& (3 : Int32))), .val (.int ((p1 >>> ((4 : Int32) &&& 31)) &&& (3 : Int32))), .val (.ref b5), .val (.ref b17), .val (.ref b33), .val (.int (f0_s0_134 p1 q2 q3 q4))] [(.int (f10 (2 : Int32) (p1 &&& (3 : Int32)) ((p1 >>> ((2 : Int32) &&& 31)) &&& (3 : Int32)) ((p1 >>> ((4 : Int32) &&& 31)) &&& (3 : Int32)) q2 q3 q4)), (.int (f9 (2 : Int32) (f1_x0n (4 : Int32) (3 : Int32) (f0_v36 p1) (3 : Int32) (f0_v54 q2 q3 q4)) (f1_x0c (4 : Int32) (3 : Int32) (f0_v36 p1) (3 : Int32) (f0_v54 q2 q3 q4)) (f1_rn (4 : Int32) (3 : Int32) (f0_v36 p1) (3 : Int32) (f0_v54 q2 q3 q4)) (f1_rf (4 : Int32) (3 : Int32) (f0_v36 p1) (3 : Int32) (f0_v54 q2 q3 q4))))])) _
        refine XS.icmpYes X56.here hx rfl (pc0 := 161) (pc' := 168) rfl (hb hby at_161) rfl (feq hc161).2 (by decide) (by decide) ?_
        show Steps p.tables e below (T56.setTop (mkF m 168 #[.val (.int p1), .val (.long q2), .second, .val (.long q3), .second, .val (.long q4), .second, .val (.int (p1 &&& (3 : Int32))), .val (.int ((p1 >>> ((2 : Int32) &&& 31)) &&& (3 : Int32))), .val (.int ((p1 >>> ((4 : Int32) &&& 31)) &&& (3 : Int32))), .val (.ref b5), .val (.ref b17), .val (.ref b33), .val (.int (f0_s0_134 p1 q2 q3 q4))] [])) _
        refine XS.iconst X56.here hx rfl (hb hby at_168) ?_
        exact k
  have pre17 : ∀ t, Steps p.tables e below (T57.setTop (mkF m 173 #[.val (.int p1), .val (.long q2), .second, .val (.long q3), .second, .val (.long q4), .second, .val (.int (p1 &&& (3 : Int32))), .val (.int ((p1 >>> ((2 : Int32) &&& 31)) &&& (3 : Int32))), .val (.int ((p1 >>> ((4 : Int32) &&& 31)) &&& (3 : Int32))), .val (.ref b5), .val (.ref b17), .val (.ref b33), .val (.int (f0_s0_169 p1 q2 q3 q4))] [(.int (f0_s0_169 p1 q2 q3 q4))])) t → Steps p.tables e below (s₁.setTop (entryFrame m #[(.int p1), (.long q2), (.long q3), (.long q4)] maxLocals)) t := by
    intro t k
    refine pre12 t ?_
    show Steps p.tables e below (T57.setTop (mkF m 169 #[.val (.int p1), .val (.long q2), .second, .val (.long q3), .second, .val (.long q4), .second, .val (.int (p1 &&& (3 : Int32))), .val (.int ((p1 >>> ((2 : Int32) &&& 31)) &&& (3 : Int32))), .val (.int ((p1 >>> ((4 : Int32) &&& 31)) &&& (3 : Int32))), .val (.ref b5), .val (.ref b17), .val (.ref b33), .val (.int (f0_s0_134 p1 q2 q3 q4))] [(.int (f0_s0_169 p1 q2 q3 q4))])) _
    refine XS.istore X57.here hx rfl (hb hby at_169) rfl (l' := #[.val (.int p1), .val (.long q2), .second, .val (.long q3), .second, .val (.long q4), .second, .val (.int (p1 &&& (3 : Int32))), .val (.int ((p1 >>> ((2 : Int32) &&& 31)) &&& (3 : Int32))), .val (.int ((p1 >>> ((4 : Int32) &&& 31)) &&& (3 : Int32))), .val (.ref b5), .val (.ref b17), .val (.ref b33), .val (.int (f0_s0_169 p1 q2 q3 q4))]) rfl ?_
    show Steps p.tables e below (T57.setTop (mkF m 171 #[.val (.int p1), .val (.long q2), .second, .val (.long q3), .second, .val (.long q4), .second, .val (.int (p1 &&& (3 : Int32))), .val (.int ((p1 >>> ((2 : Int32) &&& 31)) &&& (3 : Int32))), .val (.int ((p1 >>> ((4 : Int32) &&& 31)) &&& (3 : Int32))), .val (.ref b5), .val (.ref b17), .val (.ref b33), .val (.int (f0_s0_169 p1 q2 q3 q4))] [])) _
    refine XS.iload X57.here hx rfl (hb hby at_171) rfl ?_
    exact k
  obtain ⟨T60, Lmpre18, X60, e60, N60, pre18⟩ : ∃ (T' : State) (L' : List Loc), Stand p l e room_1 s m #[(.int p1), (.long q2), (.long q3), (.long q4)] below meth c T' L' 12 30 ∧ T'.heap = T41.heap ∧ Fr n0 L' ∧ ∀ t, Steps p.tables e below (T'.setTop (mkF m 204 #[.val (.int p1), .val (.long q2), .second, .val (.long q3), .second, .val (.long q4), .second, .val (.int (p1 &&& (3 : Int32))), .val (.int ((p1 >>> ((2 : Int32) &&& 31)) &&& (3 : Int32))), .val (.int ((p1 >>> ((4 : Int32) &&& 31)) &&& (3 : Int32))), .val (.ref b5), .val (.ref b17), .val (.ref b33), .val (.int (f0_s0_169 p1 q2 q3 q4))] [(.int (f0_s0_204 p1 q2 q3 q4))])) t → Steps p.tables e below (s₁.setTop (entryFrame m #[(.int p1), (.long q2), (.long q3), (.long q4)] maxLocals)) t := by
    by_cases hc173 : (f0_s0_169 p1 q2 q3 q4) = (0 : Int32)
    · have eq19 := (show (f0_s0_204 p1 q2 q3 q4) = (0 : Int32) from by unfold f0_s0_204; simp only [if_pos hc173])
      refine ⟨T57, _, X57, e57, N57, fun t k => ?_⟩
      try rw [eq19] at k
      refine pre17 t ?_
      show Steps p.tables e below (T57.setTop (mkF m 173 #[.val (.int p1), .val (.long q2), .second, .val (.long q3), .second, .val (.long q4), .second, .val (.int (p1 &&& (3 : Int32))), .val (.int ((p1 >>> ((2 : Int32) &&& 31)) &&& (3 : Int32))), .val (.int ((p1 >>> ((4 : Int32) &&& 31)) &&& (3 : Int32))), .val (.ref b5), .val (.ref b17), .val (.ref b33), .val (.int (f0_s0_169 p1 q2 q3 q4))] [(.int (f0_s0_169 p1 q2 q3 q4))])) _
      refine XS.ifYes X57.here hx rfl (pc0 := 173) (pc' := 203) rfl (hb hby at_173) rfl ((if0 _ _).trans (teq hc173).1) (by decide) (by decide) ?_
      show Steps p.tables e below (T57.setTop (mkF m 203 #[.val (.int p1), .val (.long q2), .second, .val (.long q3), .second, .val (.long q4), .second, .val (.int (p1 &&& (3 : Int32))), .val (.int ((p1 >>> ((2 : Int32) &&& 31)) &&& (3 : Int32))), .val (.int ((p1 >>> ((4 : Int32) &&& 31)) &&& (3 : Int32))), .val (.ref b5), .val (.ref b17), .val (.ref b33), .val (.int (f0_s0_169 p1 q2 q3 q4))] [])) _
      refine XS.iconst X57.here hx rfl (hb hby at_203) ?_
      exact k
    · obtain ⟨cq58, kq58, q58a, q58b, q58c⟩ := isOf hZ e57 c45
      obtain ⟨_, _, ⟨T58, L58, k58, n58⟩, -, X58, ⟨Lc58, hQ58, l58, y58, z58⟩, st58⟩ := X57.virtualBack hx (y := (⟨"com/example/podflow/podflow/simulation/Arrivals", "first", "(I)I"⟩ : MethodName)) (z := (⟨"com/example/podflow/podflow/simulation/Arrivals", "first", "(I)I"⟩ : MethodName)) hown (mvT hZ (hw _ (List.mem_of_getElem? (i := 49) rfl))) (mvT hZ (hw _ (List.mem_of_getElem? (i := 50) rfl))) (notFace_of_selects (args := #[]) (mvT hZ (hw _ (List.mem_of_getElem? (i := 52) rfl)))) (mvT hZ (hw _ (List.mem_of_getElem? (i := 52) rfl))) (mvT hZ (hw _ (List.mem_of_getElem? (i := 51) rfl))) (by decide) (backOf (W := 0) (rm9 l Z a0 hw [] b33 (3 : Int32) b5 b17 r41_1 r41_0 (f1_x0n (4 : Int32) (3 : Int32) (f0_v36 p1) (3 : Int32) (f0_v54 q2 q3 q4)) (f1_x0c (4 : Int32) (3 : Int32) (f0_v36 p1) (3 : Int32) (f0_v54 q2 q3 q4)) cO41 (f1_rn (4 : Int32) (3 : Int32) (f0_v36 p1) (3 : Int32) (f0_v54 q2 q3 q4)) (f1_rf (4 : Int32) (3 : Int32) (f0_v36 p1) (3 : Int32) (f0_v54 q2 q3 q4)) h33.size T41.heap n0 c42 c46 c47 c48 c49 va41_0 oO41 c34 (by decide) rfl (own_JL p1 q2 q3 q4)) hZ (hw _ (List.mem_of_getElem? (i := 53) rfl)) (hw _ (List.mem_of_getElem? (i := 4) rfl)) (by decide) (by decide)) q58a q58c (g := (mkF m 179 #[.val (.int p1), .val (.long q2), .second, .val (.long q3), .second, .val (.long q4), .second, .val (.int (p1 &&& (3 : Int32))), .val (.int ((p1 >>> ((2 : Int32) &&& 31)) &&& (3 : Int32))), .val (.int ((p1 >>> ((4 : Int32) &&& 31)) &&& (3 : Int32))), .val (.ref b5), .val (.ref b17), .val (.ref b33), .val (.int (f0_s0_169 p1 q2 q3 q4))] [(.int (3 : Int32)), (.ref b33)])) rfl (by rw [hml]; rfl) (Steps.refl _) (argsL := [(.int (3 : Int32))]) (rest := []) (lenOf pd_6 rfl) rfl (by show 2 * 0 + _ ≤ _; exact Nat.le_of_eq rfl) (hb hby at_179) (fun _ _ => ⟨rfl, e57, (by decide : 12 + 0 ≤ _), (by decide : 30 + 0 ≤ _)⟩)
      dsimp only [Pt.U, Pt.locs, Pt.cells, Pt.slots] at X58 l58 y58 z58 st58 hQ58
      subst l58 y58 z58
      obtain ⟨rfl, N58q, e58⟩ := hQ58
      have N58 := Fr.app N57 N58q
      obtain ⟨_, _, ⟨T59, L59, k59, n59⟩, -, X59, ⟨Lc59, hQ59, l59, y59, z59⟩, st59⟩ := Jvm.LawKit.callS X58 hx (y := (⟨"com/example/podflow/podflow/simulation/ArrivalsFirstPinLaw", "ref", "(IIIIJJJ)I"⟩ : MethodName)) hown (mvT hZ (hw _ (List.mem_of_getElem? (i := 54) rfl))) (mvT hZ (hw _ (List.mem_of_getElem? (i := 55) rfl))) (mvT hZ (hw _ (List.mem_of_getElem? (i := 56) rfl))) (mvT hZ (hw _ (List.mem_of_getElem? (i := 57) rfl))) (by decide) (backOf (W := 1) (rm10 l Z a0 hw [] (3 : Int32) (p1 &&& (3 : Int32)) ((p1 >>> ((2 : Int32) &&& 31)) &&& (3 : Int32)) ((p1 >>> ((4 : Int32) &&& 31)) &&& (3 : Int32)) q2 q3 q4 T41.heap n0 c42 ) hZ (hw _ (List.mem_of_getElem? (i := 57) rfl)) (hw _ (List.mem_of_getElem? (i := 56) rfl)) (by decide) (by decide)) (g := (mkF m 193 #[.val (.int p1), .val (.long q2), .second, .val (.long q3), .second, .val (.long q4), .second, .val (.int (p1 &&& (3 : Int32))), .val (.int ((p1 >>> ((2 : Int32) &&& 31)) &&& (3 : Int32))), .val (.int ((p1 >>> ((4 : Int32) &&& 31)) &&& (3 : Int32))), .val (.ref b5), .val (.ref b17), .val (.ref b33), .val (.int (f0_s0_169 p1 q2 q3 q4))] [(.long q4), (.long q3), (.long q2), (.int ((p1 >>> ((4 : Int32) &&& 31)) &&& (3 : Int32))), (.int ((p1 >>> ((2 : Int32) &&& 31)) &&& (3 : Int32))), (.int (p1 &&& (3 : Int32))), (.int (3 : Int32)), (.int (f9 (3 : Int32) (f1_x0n (4 : Int32) (3 : Int32) (f0_v36 p1) (3 : Int32) (f0_v54 q2 q3 q4)) (f1_x0c (4 : Int32) (3 : Int32) (f0_v36 p1) (3 : Int32) (f0_v54 q2 q3 q4)) (f1_rn (4 : Int32) (3 : Int32) (f0_v36 p1) (3 : Int32) (f0_v54 q2 q3 q4)) (f1_rf (4 : Int32) (3 : Int32) (f0_v36 p1) (3 : Int32) (f0_v54 q2 q3 q4))))])) rfl (by rw [hml]; rfl) (argsL := [(.int (3 : Int32)), (.int (p1 &&& (3 : Int32))), (.int ((p1 >>> ((2 : Int32) &&& 31)) &&& (3 : Int32))), (.int ((p1 >>> ((4 : Int32) &&& 31)) &&& (3 : Int32))), (.long q2), (.long q3), (.long q4)]) (rest := [(.int (f9 (3 : Int32) (f1_x0n (4 : Int32) (3 : Int32) (f0_v36 p1) (3 : Int32) (f0_v54 q2 q3 q4)) (f1_x0c (4 : Int32) (3 : Int32) (f0_v36 p1) (3 : Int32) (f0_v54 q2 q3 q4)) (f1_rn (4 : Int32) (3 : Int32) (f0_v36 p1) (3 : Int32) (f0_v54 q2 q3 q4)) (f1_rf (4 : Int32) (3 : Int32) (f0_v36 p1) (3 : Int32) (f0_v54 q2 q3 q4))))]) (lenOf pd_7 rfl) rfl (by show 2 * 0 + _ ≤ _; exact Nat.le_of_eq rfl) (hb hby at_193) (fun _ _ => ⟨rfl, e58, (by decide : 12 + 0 ≤ _), (by decide : 30 + 0 ≤ _)⟩)
      dsimp only [Pt.U, Pt.locs, Pt.cells, Pt.slots] at X59 l59 y59 z59 st59 hQ59
      subst l59 y59 z59
      obtain ⟨rfl, N59q, e59⟩ := hQ59
      have N59 := Fr.app N58 N59q
      have pre20 : ∀ t, Steps p.tables e below (T59.setTop (mkF m 196 #[.val (.int p1), .val (.long q2), .second, .val (.long q3), .second, .val (.long q4), .second, .val (.int (p1 &&& (3 : Int32))), .val (.int ((p1 >>> ((2 : Int32) &&& 31)) &&& (3 : Int32))), .val (.int ((p1 >>> ((4 : Int32) &&& 31)) &&& (3 : Int32))), .val (.ref b5), .val (.ref b17), .val (.ref b33), .val (.int (f0_s0_169 p1 q2 q3 q4))] [(.int (f10 (3 : Int32) (p1 &&& (3 : Int32)) ((p1 >>> ((2 : Int32) &&& 31)) &&& (3 : Int32)) ((p1 >>> ((4 : Int32) &&& 31)) &&& (3 : Int32)) q2 q3 q4)), (.int (f9 (3 : Int32) (f1_x0n (4 : Int32) (3 : Int32) (f0_v36 p1) (3 : Int32) (f0_v54 q2 q3 q4)) (f1_x0c (4 : Int32) (3 : Int32) (f0_v36 p1) (3 : Int32) (f0_v54 q2 q3 q4)) (f1_rn (4 : Int32) (3 : Int32) (f0_v36 p1) (3 : Int32) (f0_v54 q2 q3 q4)) (f1_rf (4 : Int32) (3 : Int32) (f0_v36 p1) (3 : Int32) (f0_v54 q2 q3 q4))))])) t → Steps p.tables e below (s₁.setTop (entryFrame m #[(.int p1), (.long q2), (.long q3), (.long q4)] maxLocals)) t := by
        intro t k
        refine pre17 t ?_
        show Steps p.tables e below (T57.setTop (mkF m 173 #[.val (.int p1), .val (.long q2), .second, .val (.long q3), .second, .val (.long q4), .second, .val (.int (p1 &&& (3 : Int32))), .val (.int ((p1 >>> ((2 : Int32) &&& 31)) &&& (3 : Int32))), .val (.int ((p1 >>> ((4 : Int32) &&& 31)) &&& (3 : Int32))), .val (.ref b5), .val (.ref b17), .val (.ref b33), .val (.int (f0_s0_169 p1 q2 q3 q4))] [(.int (f0_s0_169 p1 q2 q3 q4))])) _
        refine XS.ifNo X57.here hx rfl (hb hby at_173) rfl ((if0 _ _).trans (feq hc173).1) ?_
        show Steps p.tables e below (T57.setTop (mkF m 176 #[.val (.int p1), .val (.long q2), .second, .val (.long q3), .second, .val (.long q4), .second, .val (.int (p1 &&& (3 : Int32))), .val (.int ((p1 >>> ((2 : Int32) &&& 31)) &&& (3 : Int32))), .val (.int ((p1 >>> ((4 : Int32) &&& 31)) &&& (3 : Int32))), .val (.ref b5), .val (.ref b17), .val (.ref b33), .val (.int (f0_s0_169 p1 q2 q3 q4))] [])) _
        refine XS.aload X57.here hx rfl (hb hby at_176) rfl rfl ?_
        show Steps p.tables e below (T57.setTop (mkF m 178 #[.val (.int p1), .val (.long q2), .second, .val (.long q3), .second, .val (.long q4), .second, .val (.int (p1 &&& (3 : Int32))), .val (.int ((p1 >>> ((2 : Int32) &&& 31)) &&& (3 : Int32))), .val (.int ((p1 >>> ((4 : Int32) &&& 31)) &&& (3 : Int32))), .val (.ref b5), .val (.ref b17), .val (.ref b33), .val (.int (f0_s0_169 p1 q2 q3 q4))] [(.ref b33)])) _
        refine XS.iconst X57.here hx rfl (hb hby at_178) ?_
        show Steps p.tables e below (T57.setTop (mkF m 179 #[.val (.int p1), .val (.long q2), .second, .val (.long q3), .second, .val (.long q4), .second, .val (.int (p1 &&& (3 : Int32))), .val (.int ((p1 >>> ((2 : Int32) &&& 31)) &&& (3 : Int32))), .val (.int ((p1 >>> ((4 : Int32) &&& 31)) &&& (3 : Int32))), .val (.ref b5), .val (.ref b17), .val (.ref b33), .val (.int (f0_s0_169 p1 q2 q3 q4))] [(.int (3 : Int32)), (.ref b33)])) _
        refine st58.trans ?_
        show Steps p.tables e below (T58.setTop (mkF m 182 #[.val (.int p1), .val (.long q2), .second, .val (.long q3), .second, .val (.long q4), .second, .val (.int (p1 &&& (3 : Int32))), .val (.int ((p1 >>> ((2 : Int32) &&& 31)) &&& (3 : Int32))), .val (.int ((p1 >>> ((4 : Int32) &&& 31)) &&& (3 : Int32))), .val (.ref b5), .val (.ref b17), .val (.ref b33), .val (.int (f0_s0_169 p1 q2 q3 q4))] [(.int (f9 (3 : Int32) (f1_x0n (4 : Int32) (3 : Int32) (f0_v36 p1) (3 : Int32) (f0_v54 q2 q3 q4)) (f1_x0c (4 : Int32) (3 : Int32) (f0_v36 p1) (3 : Int32) (f0_v54 q2 q3 q4)) (f1_rn (4 : Int32) (3 : Int32) (f0_v36 p1) (3 : Int32) (f0_v54 q2 q3 q4)) (f1_rf (4 : Int32) (3 : Int32) (f0_v36 p1) (3 : Int32) (f0_v54 q2 q3 q4))))])) _
        refine XS.iconst X58.here hx rfl (hb hby at_182) ?_
        show Steps p.tables e below (T58.setTop (mkF m 183 #[.val (.int p1), .val (.long q2), .second, .val (.long q3), .second, .val (.long q4), .second, .val (.int (p1 &&& (3 : Int32))), .val (.int ((p1 >>> ((2 : Int32) &&& 31)) &&& (3 : Int32))), .val (.int ((p1 >>> ((4 : Int32) &&& 31)) &&& (3 : Int32))), .val (.ref b5), .val (.ref b17), .val (.ref b33), .val (.int (f0_s0_169 p1 q2 q3 q4))] [(.int (3 : Int32)), (.int (f9 (3 : Int32) (f1_x0n (4 : Int32) (3 : Int32) (f0_v36 p1) (3 : Int32) (f0_v54 q2 q3 q4)) (f1_x0c (4 : Int32) (3 : Int32) (f0_v36 p1) (3 : Int32) (f0_v54 q2 q3 q4)) (f1_rn (4 : Int32) (3 : Int32) (f0_v36 p1) (3 : Int32) (f0_v54 q2 q3 q4)) (f1_rf (4 : Int32) (3 : Int32) (f0_v36 p1) (3 : Int32) (f0_v54 q2 q3 q4))))])) _
        refine XS.iload X58.here hx rfl (hb hby at_183) rfl ?_
        show Steps p.tables e below (T58.setTop (mkF m 185 #[.val (.int p1), .val (.long q2), .second, .val (.long q3), .second, .val (.long q4), .second, .val (.int (p1 &&& (3 : Int32))), .val (.int ((p1 >>> ((2 : Int32) &&& 31)) &&& (3 : Int32))), .val (.int ((p1 >>> ((4 : Int32) &&& 31)) &&& (3 : Int32))), .val (.ref b5), .val (.ref b17), .val (.ref b33), .val (.int (f0_s0_169 p1 q2 q3 q4))] [(.int (p1 &&& (3 : Int32))), (.int (3 : Int32)), (.int (f9 (3 : Int32) (f1_x0n (4 : Int32) (3 : Int32) (f0_v36 p1) (3 : Int32) (f0_v54 q2 q3 q4)) (f1_x0c (4 : Int32) (3 : Int32) (f0_v36 p1) (3 : Int32) (f0_v54 q2 q3 q4)) (f1_rn (4 : Int32) (3 : Int32) (f0_v36 p1) (3 : Int32) (f0_v54 q2 q3 q4)) (f1_rf (4 : Int32) (3 : Int32) (f0_v36 p1) (3 : Int32) (f0_v54 q2 q3 q4))))])) _
        refine XS.iload X58.here hx rfl (hb hby at_185) rfl ?_
        show Steps p.tables e below (T58.setTop (mkF m 187 #[.val (.int p1), .val (.long q2), .second, .val (.long q3), .second, .val (.long q4), .second, .val (.int (p1 &&& (3 : Int32))), .val (.int ((p1 >>> ((2 : Int32) &&& 31)) &&& (3 : Int32))), .val (.int ((p1 >>> ((4 : Int32) &&& 31)) &&& (3 : Int32))), .val (.ref b5), .val (.ref b17), .val (.ref b33), .val (.int (f0_s0_169 p1 q2 q3 q4))] [(.int ((p1 >>> ((2 : Int32) &&& 31)) &&& (3 : Int32))), (.int (p1 &&& (3 : Int32))), (.int (3 : Int32)), (.int (f9 (3 : Int32) (f1_x0n (4 : Int32) (3 : Int32) (f0_v36 p1) (3 : Int32) (f0_v54 q2 q3 q4)) (f1_x0c (4 : Int32) (3 : Int32) (f0_v36 p1) (3 : Int32) (f0_v54 q2 q3 q4)) (f1_rn (4 : Int32) (3 : Int32) (f0_v36 p1) (3 : Int32) (f0_v54 q2 q3 q4)) (f1_rf (4 : Int32) (3 : Int32) (f0_v36 p1) (3 : Int32) (f0_v54 q2 q3 q4))))])) _
        refine XS.iload X58.here hx rfl (hb hby at_187) rfl ?_
        show Steps p.tables e below (T58.setTop (mkF m 189 #[.val (.int p1), .val (.long q2), .second, .val (.long q3), .second, .val (.long q4), .second, .val (.int (p1 &&& (3 : Int32))), .val (.int ((p1 >>> ((2 : Int32) &&& 31)) &&& (3 : Int32))), .val (.int ((p1 >>> ((4 : Int32) &&& 31)) &&& (3 : Int32))), .val (.ref b5), .val (.ref b17), .val (.ref b33), .val (.int (f0_s0_169 p1 q2 q3 q4))] [(.int ((p1 >>> ((4 : Int32) &&& 31)) &&& (3 : Int32))), (.int ((p1 >>> ((2 : Int32) &&& 31)) &&& (3 : Int32))), (.int (p1 &&& (3 : Int32))), (.int (3 : Int32)), (.int (f9 (3 : Int32) (f1_x0n (4 : Int32) (3 : Int32) (f0_v36 p1) (3 : Int32) (f0_v54 q2 q3 q4)) (f1_x0c (4 : Int32) (3 : Int32) (f0_v36 p1) (3 : Int32) (f0_v54 q2 q3 q4)) (f1_rn (4 : Int32) (3 : Int32) (f0_v36 p1) (3 : Int32) (f0_v54 q2 q3 q4)) (f1_rf (4 : Int32) (3 : Int32) (f0_v36 p1) (3 : Int32) (f0_v54 q2 q3 q4))))])) _
        refine XS.lloadN X58.here hx rfl (hb hby at_189) rfl ?_
        show Steps p.tables e below (T58.setTop (mkF m 190 #[.val (.int p1), .val (.long q2), .second, .val (.long q3), .second, .val (.long q4), .second, .val (.int (p1 &&& (3 : Int32))), .val (.int ((p1 >>> ((2 : Int32) &&& 31)) &&& (3 : Int32))), .val (.int ((p1 >>> ((4 : Int32) &&& 31)) &&& (3 : Int32))), .val (.ref b5), .val (.ref b17), .val (.ref b33), .val (.int (f0_s0_169 p1 q2 q3 q4))] [(.long q2), (.int ((p1 >>> ((4 : Int32) &&& 31)) &&& (3 : Int32))), (.int ((p1 >>> ((2 : Int32) &&& 31)) &&& (3 : Int32))), (.int (p1 &&& (3 : Int32))), (.int (3 : Int32)), (.int (f9 (3 : Int32) (f1_x0n (4 : Int32) (3 : Int32) (f0_v36 p1) (3 : Int32) (f0_v54 q2 q3 q4)) (f1_x0c (4 : Int32) (3 : Int32) (f0_v36 p1) (3 : Int32) (f0_v54 q2 q3 q4)) (f1_rn (4 : Int32) (3 : Int32) (f0_v36 p1) (3 : Int32) (f0_v54 q2 q3 q4)) (f1_rf (4 : Int32) (3 : Int32) (f0_v36 p1) (3 : Int32) (f0_v54 q2 q3 q4))))])) _
        refine XS.lloadN X58.here hx rfl (hb hby at_190) rfl ?_
        show Steps p.tables e below (T58.setTop (mkF m 191 #[.val (.int p1), .val (.long q2), .second, .val (.long q3), .second, .val (.long q4), .second, .val (.int (p1 &&& (3 : Int32))), .val (.int ((p1 >>> ((2 : Int32) &&& 31)) &&& (3 : Int32))), .val (.int ((p1 >>> ((4 : Int32) &&& 31)) &&& (3 : Int32))), .val (.ref b5), .val (.ref b17), .val (.ref b33), .val (.int (f0_s0_169 p1 q2 q3 q4))] [(.long q3), (.long q2), (.int ((p1 >>> ((4 : Int32) &&& 31)) &&& (3 : Int32))), (.int ((p1 >>> ((2 : Int32) &&& 31)) &&& (3 : Int32))), (.int (p1 &&& (3 : Int32))), (.int (3 : Int32)), (.int (f9 (3 : Int32) (f1_x0n (4 : Int32) (3 : Int32) (f0_v36 p1) (3 : Int32) (f0_v54 q2 q3 q4)) (f1_x0c (4 : Int32) (3 : Int32) (f0_v36 p1) (3 : Int32) (f0_v54 q2 q3 q4)) (f1_rn (4 : Int32) (3 : Int32) (f0_v36 p1) (3 : Int32) (f0_v54 q2 q3 q4)) (f1_rf (4 : Int32) (3 : Int32) (f0_v36 p1) (3 : Int32) (f0_v54 q2 q3 q4))))])) _
        refine XS.lload X58.here hx rfl (hb hby at_191) rfl ?_
        show Steps p.tables e below (T58.setTop (mkF m 193 #[.val (.int p1), .val (.long q2), .second, .val (.long q3), .second, .val (.long q4), .second, .val (.int (p1 &&& (3 : Int32))), .val (.int ((p1 >>> ((2 : Int32) &&& 31)) &&& (3 : Int32))), .val (.int ((p1 >>> ((4 : Int32) &&& 31)) &&& (3 : Int32))), .val (.ref b5), .val (.ref b17), .val (.ref b33), .val (.int (f0_s0_169 p1 q2 q3 q4))] [(.long q4), (.long q3), (.long q2), (.int ((p1 >>> ((4 : Int32) &&& 31)) &&& (3 : Int32))), (.int ((p1 >>> ((2 : Int32) &&& 31)) &&& (3 : Int32))), (.int (p1 &&& (3 : Int32))), (.int (3 : Int32)), (.int (f9 (3 : Int32) (f1_x0n (4 : Int32) (3 : Int32) (f0_v36 p1) (3 : Int32) (f0_v54 q2 q3 q4)) (f1_x0c (4 : Int32) (3 : Int32) (f0_v36 p1) (3 : Int32) (f0_v54 q2 q3 q4)) (f1_rn (4 : Int32) (3 : Int32) (f0_v36 p1) (3 : Int32) (f0_v54 q2 q3 q4)) (f1_rf (4 : Int32) (3 : Int32) (f0_v36 p1) (3 : Int32) (f0_v54 q2 q3 q4))))])) _
        refine st59 _ ?_
        exact k
      by_cases hc196 : (f9 (3 : Int32) (f1_x0n (4 : Int32) (3 : Int32) (f0_v36 p1) (3 : Int32) (f0_v54 q2 q3 q4)) (f1_x0c (4 : Int32) (3 : Int32) (f0_v36 p1) (3 : Int32) (f0_v54 q2 q3 q4)) (f1_rn (4 : Int32) (3 : Int32) (f0_v36 p1) (3 : Int32) (f0_v54 q2 q3 q4)) (f1_rf (4 : Int32) (3 : Int32) (f0_v36 p1) (3 : Int32) (f0_v54 q2 q3 q4))) = (f10 (3 : Int32) (p1 &&& (3 : Int32)) ((p1 >>> ((2 : Int32) &&& 31)) &&& (3 : Int32)) ((p1 >>> ((4 : Int32) &&& 31)) &&& (3 : Int32)) q2 q3 q4)
      · have eq21 := (show (f0_s0_204 p1 q2 q3 q4) = (1 : Int32) from by unfold f0_s0_204; simp only [if_neg hc173, if_pos hc196])
        refine ⟨T59, _, X59, e59, N59, fun t k => ?_⟩
        try rw [eq21] at k
        refine pre20 t ?_
        show Steps p.tables e below (T59.setTop (mkF m 196 #[.val (.int p1), .val (.long q2), .second, .val (.long q3), .second, .val (.long q4), .second, .val (.int (p1 &&& (3 : Int32))), .val (.int ((p1 >>> ((2 : Int32) &&& 31)) &&& (3 : Int32))), .val (.int ((p1 >>> ((4 : Int32) &&& 31)) &&& (3 : Int32))), .val (.ref b5), .val (.ref b17), .val (.ref b33), .val (.int (f0_s0_169 p1 q2 q3 q4))] [(.int (f10 (3 : Int32) (p1 &&& (3 : Int32)) ((p1 >>> ((2 : Int32) &&& 31)) &&& (3 : Int32)) ((p1 >>> ((4 : Int32) &&& 31)) &&& (3 : Int32)) q2 q3 q4)), (.int (f9 (3 : Int32) (f1_x0n (4 : Int32) (3 : Int32) (f0_v36 p1) (3 : Int32) (f0_v54 q2 q3 q4)) (f1_x0c (4 : Int32) (3 : Int32) (f0_v36 p1) (3 : Int32) (f0_v54 q2 q3 q4)) (f1_rn (4 : Int32) (3 : Int32) (f0_v36 p1) (3 : Int32) (f0_v54 q2 q3 q4)) (f1_rf (4 : Int32) (3 : Int32) (f0_v36 p1) (3 : Int32) (f0_v54 q2 q3 q4))))])) _
        refine XS.icmpNo X59.here hx rfl (hb hby at_196) rfl (teq hc196).2 ?_
        show Steps p.tables e below (T59.setTop (mkF m 199 #[.val (.int p1), .val (.long q2), .second, .val (.long q3), .second, .val (.long q4), .second, .val (.int (p1 &&& (3 : Int32))), .val (.int ((p1 >>> ((2 : Int32) &&& 31)) &&& (3 : Int32))), .val (.int ((p1 >>> ((4 : Int32) &&& 31)) &&& (3 : Int32))), .val (.ref b5), .val (.ref b17), .val (.ref b33), .val (.int (f0_s0_169 p1 q2 q3 q4))] [])) _
        refine XS.iconst X59.here hx rfl (hb hby at_199) ?_
        show Steps p.tables e below (T59.setTop (mkF m 200 #[.val (.int p1), .val (.long q2), .second, .val (.long q3), .second, .val (.long q4), .second, .val (.int (p1 &&& (3 : Int32))), .val (.int ((p1 >>> ((2 : Int32) &&& 31)) &&& (3 : Int32))), .val (.int ((p1 >>> ((4 : Int32) &&& 31)) &&& (3 : Int32))), .val (.ref b5), .val (.ref b17), .val (.ref b33), .val (.int (f0_s0_169 p1 q2 q3 q4))] [(.int (1 : Int32))])) _
        refine XS.goto X59.here hx rfl (pc0 := 200) (pc' := 204) rfl (hb hby at_200) (by decide) (by decide) ?_
        exact k
      · have eq22 := (show (f0_s0_204 p1 q2 q3 q4) = (0 : Int32) from by unfold f0_s0_204; simp only [if_neg hc173, if_neg hc196])
        refine ⟨T59, _, X59, e59, N59, fun t k => ?_⟩
        try rw [eq22] at k
        refine pre20 t ?_
        show Steps p.tables e below (T59.setTop (mkF m 196 #[.val (.int p1), .val (.long q2), .second, .val (.long q3), .second, .val (.long q4), .second, .val (.int (p1 &&& (3 : Int32))), .val (.int ((p1 >>> ((2 : Int32) &&& 31)) &&& (3 : Int32))), .val (.int ((p1 >>> ((4 : Int32) &&& 31)) &&& (3 : Int32))), .val (.ref b5), .val (.ref b17), .val (.ref b33), .val (.int (f0_s0_169 p1 q2 q3 q4))] [(.int (f10 (3 : Int32) (p1 &&& (3 : Int32)) ((p1 >>> ((2 : Int32) &&& 31)) &&& (3 : Int32)) ((p1 >>> ((4 : Int32) &&& 31)) &&& (3 : Int32)) q2 q3 q4)), (.int (f9 (3 : Int32) (f1_x0n (4 : Int32) (3 : Int32) (f0_v36 p1) (3 : Int32) (f0_v54 q2 q3 q4)) (f1_x0c (4 : Int32) (3 : Int32) (f0_v36 p1) (3 : Int32) (f0_v54 q2 q3 q4)) (f1_rn (4 : Int32) (3 : Int32) (f0_v36 p1) (3 : Int32) (f0_v54 q2 q3 q4)) (f1_rf (4 : Int32) (3 : Int32) (f0_v36 p1) (3 : Int32) (f0_v54 q2 q3 q4))))])) _
        refine XS.icmpYes X59.here hx rfl (pc0 := 196) (pc' := 203) rfl (hb hby at_196) rfl (feq hc196).2 (by decide) (by decide) ?_
        show Steps p.tables e below (T59.setTop (mkF m 203 #[.val (.int p1), .val (.long q2), .second, .val (.long q3), .second, .val (.long q4), .second, .val (.int (p1 &&& (3 : Int32))), .val (.int ((p1 >>> ((2 : Int32) &&& 31)) &&& (3 : Int32))), .val (.int ((p1 >>> ((4 : Int32) &&& 31)) &&& (3 : Int32))), .val (.ref b5), .val (.ref b17), .val (.ref b33), .val (.int (f0_s0_169 p1 q2 q3 q4))] [])) _
        refine XS.iconst X59.here hx rfl (hb hby at_203) ?_
        exact k
  have eq23 : (f0 p1 q2 q3 q4) = (nar .boolean (f0_s0_204 p1 q2 q3 q4)) := rfl
  obtain ⟨fs, hr, hrun, hended, hW, hsame⟩ := X60.leave (v := some (.int (nar .boolean (f0_s0_204 p1 q2 q3 q4)))) (fun h => by rw [Bd.returns] at h; cases h)
  refine ⟨_, _, pre18 _ ?_, hrun, hended, _, _, rfl, ?_, ⟨_, rfl⟩, hW, hsame.mono (by decide) (by decide)⟩
  · show Steps p.tables e below (T60.setTop (mkF m 204 #[.val (.int p1), .val (.long q2), .second, .val (.long q3), .second, .val (.long q4), .second, .val (.int (p1 &&& (3 : Int32))), .val (.int ((p1 >>> ((2 : Int32) &&& 31)) &&& (3 : Int32))), .val (.int ((p1 >>> ((4 : Int32) &&& 31)) &&& (3 : Int32))), .val (.ref b5), .val (.ref b17), .val (.ref b33), .val (.int (f0_s0_169 p1 q2 q3 q4))] [(.int (f0_s0_204 p1 q2 q3 q4))])) _
    refine XS.istore X60.here hx rfl (hb hby at_204) rfl (l' := #[.val (.int p1), .val (.long q2), .second, .val (.long q3), .second, .val (.long q4), .second, .val (.int (p1 &&& (3 : Int32))), .val (.int ((p1 >>> ((2 : Int32) &&& 31)) &&& (3 : Int32))), .val (.int ((p1 >>> ((4 : Int32) &&& 31)) &&& (3 : Int32))), .val (.ref b5), .val (.ref b17), .val (.ref b33), .val (.int (f0_s0_204 p1 q2 q3 q4))]) rfl ?_
    show Steps p.tables e below (T60.setTop (mkF m 206 #[.val (.int p1), .val (.long q2), .second, .val (.long q3), .second, .val (.long q4), .second, .val (.int (p1 &&& (3 : Int32))), .val (.int ((p1 >>> ((2 : Int32) &&& 31)) &&& (3 : Int32))), .val (.int ((p1 >>> ((4 : Int32) &&& 31)) &&& (3 : Int32))), .val (.ref b5), .val (.ref b17), .val (.ref b33), .val (.int (f0_s0_204 p1 q2 q3 q4))] [])) _
    refine XS.iload X60.here hx rfl (hb hby at_206) rfl ?_
    show Steps p.tables e below (T60.setTop (mkF m 208 #[.val (.int p1), .val (.long q2), .second, .val (.long q3), .second, .val (.long q4), .second, .val (.int (p1 &&& (3 : Int32))), .val (.int ((p1 >>> ((2 : Int32) &&& 31)) &&& (3 : Int32))), .val (.int ((p1 >>> ((4 : Int32) &&& 31)) &&& (3 : Int32))), .val (.ref b5), .val (.ref b17), .val (.ref b33), .val (.int (f0_s0_204 p1 q2 q3 q4))] [(.int (f0_s0_204 p1 q2 q3 q4))])) _
    exact retN X60 hx (t := .boolean) Bd.returns (by simp) (hb hby at_208) hr
  · show Q0 Z p1 q2 q3 q4 h0 n0 _ T60.heap _
    rw [e60]
    exact ⟨by rw [eq23], N60, trivial⟩
theorem own_g4o (p2 z1 z2 z3 : Int32) (c sz n : Nat → Int32) (ca : Nat → Int64) (f : Nat → Nat → Int32) (S : Nat) (hS : ¬ S = (c p2.toNatClampNeg).toNatClampNeg) : ∀ (k : Nat) (i5 : Int32) (y0 : Nat → Nat → Int32), (0 ≤ i5.toInt ∧ i5.toInt < (k : Int)) → g4_58_2 p2 z1 c z2 ca z3 sz n f k i5 y0 S = y0 S := by
  intro k
  induction k with
  | zero => intro i5 y0 h; omega
  | succ k ih =>
    intro i5 y0 h
    simp only [g4_58_2]
    have hu : ∀ v, ownUF y0 (c p2.toNatClampNeg).toNatClampNeg v S = y0 S := fun v => by unfold ownUF; rw [if_neg hS]
    by_cases h1 : (0 : Int32) < i5
    · simp only [if_pos h1]
      split
      · exact hu _
      · have q := h1
        rw [Int32.lt_iff_toInt_lt, own_e0] at q
        rw [ih _ _ (by rw [own_p1 h.1]; omega)]
        exact hu _
    · simp only [if_neg h1]
      exact hu _
theorem own_wo (p2 z1 z2 z3 : Int32) (c sz n : Nat → Int32) (ca : Nat → Int64) (f : Nat → Nat → Int32) (S : Nat) (hS : ¬ S = (c p2.toNatClampNeg).toNatClampNeg) (hp : 0 ≤ p2.toInt ∧ p2.toInt < 3) (hd : ∀ i, 0 ≤ (c i).toInt ∧ (c i).toInt < 4) (hJ : own_J sz n f p2.toInt) :
    f4_o0 p2 z1 c z2 ca z3 sz n f S = sz S ∧ f4_rn p2 z1 c z2 ca z3 sz n f S = n S ∧ f4_rf p2 z1 c z2 ca z3 sz n f S = f S := by
  unfold f4_o0 f4_rn f4_rf
  by_cases hc : sz (c p2.toNatClampNeg).toNatClampNeg = n (c p2.toNatClampNeg).toNatClampNeg
  · simp only [if_pos hc]
    unfold f4_v110 f4_v46 f4_v101 f4_v46f ownU ownUN ownUF
    simp only [if_neg hS]
    exact ⟨by first | trivial | rfl, by first | trivial | rfl, by first | trivial | rfl⟩
  · simp only [if_neg hc]
    have hi := own_in hJ (hd _) hp hc
    obtain ⟨g1, g2, g3⟩ := own_g4 p2 z1 z2 z3 c sz n ca f hp 3 (sz (c p2.toNatClampNeg).toNatClampNeg) f hi
    rw [g1, g2, own_g4o p2 z1 z2 z3 c sz n ca f S hS 3 _ f ⟨hi.1, hi.2.2.2⟩]
    unfold ownU
    rw [if_neg hS]
    exact ⟨rfl, rfl, rfl⟩
theorem own_w0 (p2 z1 z2 z3 : Int32) (c sz n : Nat → Int32) (ca : Nat → Int64) (f : Nat → Nat → Int32) (S : Nat) (hS : S = (c p2.toNatClampNeg).toNatClampNeg) (h1 : sz S = 0) (h2 : n S = 0) :
    f4_o0 p2 z1 c z2 ca z3 sz n f S = 1 ∧ f4_rn p2 z1 c z2 ca z3 sz n f S = 4 ∧ f4_rf p2 z1 c z2 ca z3 sz n f S 0 = p2 := by
  subst hS
  unfold f4_o0 f4_rn f4_rf f4_v110 f4_v46 f4_v101 f4_v46f ownU ownUN ownUF f6_x0n f6_x0c
  rw [if_pos (h1.trans h2.symm), if_pos (h1.trans h2.symm), if_pos (h1.trans h2.symm)]
  simp only [if_true, h1]
  exact ⟨by decide, by decide, rfl⟩
theorem own_w1 (p2 z1 z2 z3 : Int32) (c sz n : Nat → Int32) (ca : Nat → Int64) (f : Nat → Nat → Int32) (S : Nat) (hS : S = (c p2.toNatClampNeg).toNatClampNeg) (h1 : sz S = 1) (h2 : n S = 4) :
    f4_o0 p2 z1 c z2 ca z3 sz n f S = 2 ∧ f4_rn p2 z1 c z2 ca z3 sz n f S = 4 ∧ f4_rf p2 z1 c z2 ca z3 sz n f S 0 = (if f8 (f S 0) p2 z2 ca = 0 then f S 0 else p2) ∧ f4_rf p2 z1 c z2 ca z3 sz n f S 1 = (if f8 (f S 0) p2 z2 ca = 0 then p2 else f S 0) := by
  subst hS
  have hne : ¬ sz (c p2.toNatClampNeg).toNatClampNeg = n (c p2.toNatClampNeg).toNatClampNeg := by rw [h1, h2]; decide
  unfold f4_o0 f4_rn f4_rf
  simp only [if_neg hne, h1, g4_58, g4_58_1, g4_58_2, show (0 : Int32) < 1 from by decide, if_true, show ((1 : Int32) - 1).toNatClampNeg = 0 from rfl, show ((1 : Int32) + -1) = 0 from rfl, show ¬ (0 : Int32) < 0 from by decide, if_false, ownUF, ownU, show (1 : Int32).toNatClampNeg = 1 from rfl, show (0 : Int32).toNatClampNeg = 0 from rfl]
  by_cases q : f8 (f (c p2.toNatClampNeg).toNatClampNeg 0) p2 z2 ca = 0
  · simp [q, h2, ownU, ownUF]
  · simp [q, h2, ownU, ownUF]
theorem own_w2 (p2 z1 z2 z3 : Int32) (c sz n : Nat → Int32) (ca : Nat → Int64) (f : Nat → Nat → Int32) (S : Nat) (hS : S = (c p2.toNatClampNeg).toNatClampNeg) (h1 : sz S = 2) (h2 : n S = 4) :
    f4_o0 p2 z1 c z2 ca z3 sz n f S = 3 ∧ f4_rf p2 z1 c z2 ca z3 sz n f S 0 = (if f8 (f S 1) p2 z2 ca = 0 then f S 0 else if f8 (f S 0) p2 z2 ca = 0 then f S 0 else p2) := by
  subst hS
  have hne : ¬ sz (c p2.toNatClampNeg).toNatClampNeg = n (c p2.toNatClampNeg).toNatClampNeg := by rw [h1, h2]; decide
  unfold f4_o0 f4_rf
  simp only [if_neg hne, h1, g4_58, g4_58_2, show (0 : Int32) < 2 from by decide, show (0 : Int32) < 1 from by decide, if_true, show ((2 : Int32) - 1).toNatClampNeg = 1 from rfl, show ((2 : Int32) + -1) = 1 from rfl, show ((1 : Int32) - 1).toNatClampNeg = 0 from rfl, show ((1 : Int32) + -1) = 0 from rfl, show ¬ (0 : Int32) < 0 from by decide, if_false, ownUF, ownU, show (2 : Int32).toNatClampNeg = 2 from rfl, show (1 : Int32).toNatClampNeg = 1 from rfl, show (0 : Int32).toNatClampNeg = 0 from rfl]
  by_cases q : f8 (f (c p2.toNatClampNeg).toNatClampNeg 1) p2 z2 ca = 0
  · simp [q, ownU, ownUF]
  · by_cases r : f8 (f (c p2.toNatClampNeg).toNatClampNeg 0) p2 z2 ca = 0
    · simp [q, r, ownU, ownUF]
    · simp [q, r, ownU, ownUF]
theorem own_cin {a b : Int32} (ha : 0 ≤ a.toInt) (hb : 0 ≤ b.toInt) (h : a.toNatClampNeg = b.toNatClampNeg) : a = b := by
  have h' : a.toInt.toNat = b.toInt.toNat := h
  apply Int32.toInt_inj.mp
  omega
theorem own_f8 (i j z : Int32) (ca : Nat → Int64) (h : ¬ j < i) : f8 i j z ca = if ca j.toNatClampNeg < ca i.toNatClampNeg then 1 else 0 := by
  unfold f8
  by_cases e : ca i.toNatClampNeg = ca j.toNatClampNeg
  · rw [if_pos e, if_neg h, e, if_neg (by rw [Int64.lt_iff_toInt_lt]; omega)]
  · rw [if_neg e]
theorem own_f9 (s z : Int32) (sz n : Nat → Int32) (f : Nat → Nat → Int32) (v : Int32) (hv : ¬ v = 0) (h : sz s.toNatClampNeg = v) : f9 s z sz n f = f s.toNatClampNeg 0 := by
  unfold f9
  rw [if_neg (by rw [h]; exact hv)]; rfl
theorem own_f9z (s z : Int32) (sz n : Nat → Int32) (f : Nat → Nat → Int32) (h : sz s.toNatClampNeg = 0) : f9 s z sz n f = -1 := by
  unfold f9
  rw [if_pos h]
theorem own_one (p1 : Int32) (q2 q3 q4 : Int64) (s : Int32) (hs : 0 ≤ s.toInt ∧ s.toInt < 4) : f9 s (f1_x0n 4 3 (f0_v36 p1) 3 (f0_v54 q2 q3 q4)) (f1_x0c 4 3 (f0_v36 p1) 3 (f0_v54 q2 q3 q4)) (f1_rn 4 3 (f0_v36 p1) 3 (f0_v54 q2 q3 q4)) (f1_rf 4 3 (f0_v36 p1) 3 (f0_v54 q2 q3 q4)) = f10 s (p1 &&& 3) ((p1 >>> ((2 : Int32) &&& 31)) &&& 3) ((p1 >>> ((4 : Int32) &&& 31)) &&& 3) q2 q3 q4 := by
  have hd := own_hd p1
  have c0 : f0_v36 p1 (0 : Int32).toNatClampNeg = (p1 &&& 3) := rfl
  have c1 : f0_v36 p1 (1 : Int32).toNatClampNeg = ((p1 >>> ((2 : Int32) &&& 31)) &&& 3) := rfl
  have c2 : f0_v36 p1 (2 : Int32).toNatClampNeg = ((p1 >>> ((4 : Int32) &&& 31)) &&& 3) := rfl
  have b0 : f0_v54 q2 q3 q4 (0 : Int32).toNatClampNeg = q2 := rfl
  have b1 : f0_v54 q2 q3 q4 (1 : Int32).toNatClampNeg = q3 := rfl
  have b2 : f0_v54 q2 q3 q4 (2 : Int32).toNatClampNeg = q4 := rfl
  have h0 := hd (0 : Int32).toNatClampNeg
  have h1 := hd (1 : Int32).toNatClampNeg
  have h2 := hd (2 : Int32).toNatClampNeg
  have g01 := own_f8 0 1 3 (f0_v54 q2 q3 q4) (by decide)
  have g02 := own_f8 0 2 3 (f0_v54 q2 q3 q4) (by decide)
  have g12 := own_f8 1 2 3 (f0_v54 q2 q3 q4) (by decide)
  rw [b0, b1] at g01
  rw [b0, b2] at g02
  rw [b1, b2] at g12
  have J0 := own_J0 hd
  have J1 := own_J1 (ca := f0_v54 q2 q3 q4) (z1 := 3) (z2 := 3) (z3 := 4) hd
  have J2 := own_J2 (ca := f0_v54 q2 q3 q4) (z1 := 3) (z2 := 3) (z3 := 4) hd
  rw [← c0, ← c1, ← c2]
  unfold f1_x0c f1_rn f1_rf
  clear c0 c1 c2 b0 b1 b2
  generalize f0_v54 q2 q3 q4 = ca at *
  generalize f0_v36 p1 = c at *
  have sn : ∀ {d : Int32}, (0 ≤ d.toInt ∧ d.toInt < 4) → ¬ d = s → ¬ s.toNatClampNeg = d.toNatClampNeg := fun {d} q w z => w (own_cin q.1 hs.1 z.symm)
  unfold f10 f10_l10_43 f10_l11_43 f10_l10_18 f10_l11_18
  have m1 : (-1 : Int32) < 0 := by decide
  have n0 : ¬ (0 : Int32) < 0 := by decide
  have n1 : ¬ (1 : Int32) < 0 := by decide
  have z1 : ¬ (1 : Int32) = 0 := by decide
  by_cases e0 : c (0 : Int32).toNatClampNeg = s
  · have a1 := own_w0 0 3 3 4 c (fun _ => 0) (fun _ => 0) ca (fun _ _ => 0) s.toNatClampNeg (by rw [e0]) rfl rfl
    by_cases e1 : c (1 : Int32).toNatClampNeg = s
    · have a2 := own_w1 1 3 3 4 c _ _ ca (f4_rf 0 3 c 3 ca 4 (fun _ => 0) (fun _ => 0) (fun _ _ => 0)) s.toNatClampNeg (by rw [e1]) a1.1 a1.2.1
      by_cases e2 : c (2 : Int32).toNatClampNeg = s
      · have a3 := own_w2 2 3 3 4 c _ _ ca (f4_rf 1 3 c 3 ca 4 (f4_o0 0 3 c 3 ca 4 (fun _ => 0) (fun _ => 0) (fun _ _ => 0)) (f4_rn 0 3 c 3 ca 4 (fun _ => 0) (fun _ => 0) (fun _ _ => 0)) (f4_rf 0 3 c 3 ca 4 (fun _ => 0) (fun _ => 0) (fun _ _ => 0))) s.toNatClampNeg (by rw [e2]) a2.1 a2.2.1
        rw [own_f9 s _ _ _ _ 3 (by decide) a3.1, a3.2, a2.2.2.1, a2.2.2.2, a1.2.2, g01]
        by_cases x : q3 < q2 <;> by_cases y : q4 < q2 <;> by_cases w : q4 < q3 <;> first | (simp only [e0, e1, e2, x, y, w, g02, g12, z1, m1, n0, n1, m1, n0, n1, z1, if_true, if_false, eq_self, reduceIte]; done) | (exfalso; rw [Int64.lt_iff_toInt_lt] at x y w; omega)
      · have a3 := own_wo 2 3 3 4 c _ _ ca _ s.toNatClampNeg (sn h2 e2) (by decide) hd J2
        rw [own_f9 s _ _ _ _ 2 (by decide) (a3.1.trans a2.1), a3.2.2, a2.2.2.1, a1.2.2, g01]
        by_cases x : q3 < q2 <;> simp only [e0, e1, e2, x, z1, m1, n0, n1, m1, n0, n1, z1, if_true, if_false, eq_self, reduceIte]
    · have a2 := own_wo 1 3 3 4 c _ _ ca _ s.toNatClampNeg (sn h1 e1) (by decide) hd J1
      by_cases e2 : c (2 : Int32).toNatClampNeg = s
      · have a3 := own_w1 2 3 3 4 c _ _ ca (f4_rf 1 3 c 3 ca 4 (f4_o0 0 3 c 3 ca 4 (fun _ => 0) (fun _ => 0) (fun _ _ => 0)) (f4_rn 0 3 c 3 ca 4 (fun _ => 0) (fun _ => 0) (fun _ _ => 0)) (f4_rf 0 3 c 3 ca 4 (fun _ => 0) (fun _ => 0) (fun _ _ => 0))) s.toNatClampNeg (by rw [e2]) (a2.1.trans a1.1) (a2.2.1.trans a1.2.1)
        rw [own_f9 s _ _ _ _ 2 (by decide) a3.1, a3.2.2.1, a2.2.2, a1.2.2, g02]
        by_cases x : q4 < q2 <;> simp only [e0, e1, e2, x, z1, m1, n0, n1, m1, n0, n1, z1, if_true, if_false, eq_self, reduceIte]
      · have a3 := own_wo 2 3 3 4 c _ _ ca _ s.toNatClampNeg (sn h2 e2) (by decide) hd J2
        rw [own_f9 s _ _ _ _ 1 (by decide) (a3.1.trans (a2.1.trans a1.1)), a3.2.2, a2.2.2, a1.2.2]
        simp only [e0, e1, e2, m1, n0, n1, z1, if_true, if_false, eq_self, reduceIte]
  · have a1 := own_wo 0 3 3 4 c (fun _ => 0) (fun _ => 0) ca (fun _ _ => 0) s.toNatClampNeg (sn h0 e0) (by decide) hd J0
    by_cases e1 : c (1 : Int32).toNatClampNeg = s
    · have a2 := own_w0 1 3 3 4 c _ _ ca (f4_rf 0 3 c 3 ca 4 (fun _ => 0) (fun _ => 0) (fun _ _ => 0)) s.toNatClampNeg (by rw [e1]) a1.1 a1.2.1
      by_cases e2 : c (2 : Int32).toNatClampNeg = s
      · have a3 := own_w1 2 3 3 4 c _ _ ca (f4_rf 1 3 c 3 ca 4 (f4_o0 0 3 c 3 ca 4 (fun _ => 0) (fun _ => 0) (fun _ _ => 0)) (f4_rn 0 3 c 3 ca 4 (fun _ => 0) (fun _ => 0) (fun _ _ => 0)) (f4_rf 0 3 c 3 ca 4 (fun _ => 0) (fun _ => 0) (fun _ _ => 0))) s.toNatClampNeg (by rw [e2]) a2.1 a2.2.1
        rw [own_f9 s _ _ _ _ 2 (by decide) a3.1, a3.2.2.1, a2.2.2, g12]
        by_cases x : q4 < q3 <;> simp only [e0, e1, e2, x, z1, m1, n0, n1, m1, n0, n1, z1, if_true, if_false, eq_self, reduceIte]
      · have a3 := own_wo 2 3 3 4 c _ _ ca _ s.toNatClampNeg (sn h2 e2) (by decide) hd J2
        rw [own_f9 s _ _ _ _ 1 (by decide) (a3.1.trans a2.1), a3.2.2, a2.2.2]
        simp only [e0, e1, e2, m1, m1, n0, n1, z1, if_true, if_false, eq_self, reduceIte]
    · have a2 := own_wo 1 3 3 4 c _ _ ca _ s.toNatClampNeg (sn h1 e1) (by decide) hd J1
      by_cases e2 : c (2 : Int32).toNatClampNeg = s
      · have a3 := own_w0 2 3 3 4 c _ _ ca (f4_rf 1 3 c 3 ca 4 (f4_o0 0 3 c 3 ca 4 (fun _ => 0) (fun _ => 0) (fun _ _ => 0)) (f4_rn 0 3 c 3 ca 4 (fun _ => 0) (fun _ => 0) (fun _ _ => 0)) (f4_rf 0 3 c 3 ca 4 (fun _ => 0) (fun _ => 0) (fun _ _ => 0))) s.toNatClampNeg (by rw [e2]) (a2.1.trans a1.1) (a2.2.1.trans a1.2.1)
        rw [own_f9 s _ _ _ _ 1 (by decide) a3.1, a3.2.2]
        simp only [e0, e1, e2, m1, m1, n0, n1, z1, if_true, if_false, eq_self, reduceIte]
      · have a3 := own_wo 2 3 3 4 c _ _ ca _ s.toNatClampNeg (sn h2 e2) (by decide) hd J2
        rw [own_f9z s _ _ _ _ (a3.1.trans (a2.1.trans a1.1))]
        simp only [e0, e1, e2, m1, n0, n1, z1, if_true, if_false, eq_self, reduceIte]
theorem own_law (p1 : Int32) (q2 q3 q4 : Int64) : f0 p1 q2 q3 q4 = 1 := by
  have o0 := own_one p1 q2 q3 q4 0 (by decide)
  have o1 := own_one p1 q2 q3 q4 1 (by decide)
  have o2 := own_one p1 q2 q3 q4 2 (by decide)
  have o3 := own_one p1 q2 q3 q4 3 (by decide)
  have z1 : ¬ (1 : Int32) = 0 := by decide
  unfold f0 f0_s0_204 f0_s0_169 f0_s0_134 f0_s0_99
  rw [if_pos o0, if_neg z1, if_pos o1, if_neg z1, if_pos o2, if_neg z1, if_pos o3]
  rfl

set_option maxRecDepth 65536 in
set_option maxHeartbeats 40000000 in
theorem comes_1 {Post : Tables → Env → Array Value → State → Outcome → State → Prop} (hpost : ∀ tb e args s v u, (limb_1_1.after args s (.returned v) u = true ∧ limb_1_2.after args s (.returned v) u = true ∧ True) → FrameEnd s (.returned v) u (Jvm.fieldLocs frame_1_writes args s ++ Jvm.arrayLocs frame_1_arrays args s ++ Jvm.staticLocs frame_1_statics s) 32 128 → Post tb e args s (.returned v) u) :
    ArmFor flags0 classFile x code maxLocals ret World_1 tables_1 room_1 Calls_1 rest_1 Pre_1 Post := by
  intro l hfl _ _ p e ha hc hk s m args below hf hA hF happ hP
  obtain ⟨hcalls, hrest, hpre⟩ := hP
  obtain ⟨-, -, -, hnamed, -, -, -, hat⟩ := (Spec.applies_iff hf).mp happ
  obtain ⟨hg, hn⟩ := and_e (Cond.before_iff.mp (show (Jvm.Cond.and given_1 narrow_1).before args s = true from hpre))
  obtain ⟨g1, g2⟩ := and_e hg
  obtain ⟨g3, g4⟩ := and_e g2
  obtain ⟨g5, g6⟩ := and_e g4
  obtain ⟨g7, g8⟩ := and_e g6
  obtain ⟨w0, w1, w2, w3, rfl⟩ : ∃ w0 w1 w2 w3 : Value, args = #[w0, w1, w2, w3] := by
    have hs : args.size = 4 := by simpa [Cond.value, given_1] using g1
    obtain ⟨L⟩ := args
    match L, hs with
    | [w0, w1, w2, w3], _ => exact ⟨w0, w1, w2, w3, rfl⟩
  have hw := fun d (hd : d ∈ tables_1) => atoms_spec (ws := Jvm.Cond.code x code maxLocals ret :: tables_1) hat d (List.mem_cons_of_mem _ hd)
  have hfit : Fit s := fun {y c} hc i hi => by
    obtain ⟨ha, rfl⟩ := Array.getElem?_eq_some_iff.mp hc
    have q := List.all_eq_true.mp ((Array.all_eq_true_iff_forall_mem.mp hF) _ (Array.getElem_mem ha)) i (List.mem_range.mpr hi)
    simpa [Array.getElem?_eq_getElem hi] using q
  obtain ⟨i0, ei0⟩ := is_v g3
  obtain rfl : w0 = (.int i0) := Option.some.inj ei0
  obtain ⟨i1, ei1⟩ := isL_v g5
  obtain rfl : w1 = (.long i1) := Option.some.inj ei1
  obtain ⟨i2, ei2⟩ := isL_v g7
  obtain rfl : w2 = (.long i2) := Option.some.inj ei2
  obtain ⟨i3, ei3⟩ := isL_v g8
  obtain rfl : w3 = (.long i3) := Option.some.inj ei3
  obtain ⟨n, o, h1, h2, h3, v', L, rfl, ⟨hv', N, -⟩, hq⟩ := rm0 l s _ hw tables_1 i0 i1 i2 i3 s.heap s.heap.size (Nat.le_refl _)  p e ha hc hk s m _ below hf ((Spec.applies_iff_loose hf).mp happ).1 ⟨rfl, State.Warmed39.refl s, rfl⟩ trivial
  rw [own_law i0 i1 i2 i3] at hv'
  subst hv'
  refine ⟨n, _, h1, h2, h3, hpost _ _ _ _ _ _ ⟨Cond.after_iff.mpr rfl, Cond.after_iff.mpr (eq_i res_at (Term.int_eval (1)) rfl), trivial⟩ ⟨hq.1, hq.2.1, (hq.2.2.sift fun y hy => Or.inr (N y hy)).mono (by decide) (by decide)⟩⟩
theorem main_1_1 : Claimed_1_1 := comes_1 fun _ _ _ _ _ _ h hF => ⟨h.1, hF⟩
theorem main_1_2 : Claimed_1_2 := comes_1 fun _ _ _ _ _ _ h hF => ⟨h.2.1, hF⟩
end Jvm.Pilot.@@N@@
namespace Jvm.Pilot.@@N@@
open Jvm Jvm.ClassFile Sem Op Lib Jvm.Free Jvm.Stand Jvm.Pilot.@@N@@.Jvm.D
/-! MADE BY PROGRAM (witnessworld.py) out of the Statement's table words and the real class files: 14 classes; the members and pool entries that the words name. The judged class is class 1, her method 2. -/
namespace start1
open Jvm.ClassFile
def u (s : String) : CpInfo := .utf8 (stringToUtf16 s)
/-- a pool by its gaps: so many unusable entries, then the entry; so many at the end -/
def gap : Nat → List CpInfo → List CpInfo
  | 0, r => r
  | n + 1, r => .unusable :: gap n r
def poolList (es : List (Nat × CpInfo)) (last : Nat) : List CpInfo := es.foldr (fun e r => gap e.1 (e.2 :: r)) (gap last [])
def pool (es : List (Nat × CpInfo)) (last : Nat) : Array CpInfo := ⟨poolList es last⟩
def fileOf (pool : Array CpInfo) (this : Nat) (attrs : Array Attribute := #[]) (ms : Array MethodInfo := #[]) (fl : Nat := 33) (sup : Nat := 0) (ifs : Array Nat := #[]) (fds : Array FieldInfo := #[]) : ClassFile where
  minorVersion := 0
  majorVersion := 65
  constantPool := pool
  accessFlags := fl
  thisClass := this
  superClass := sup
  interfaces := ifs
  fields := fds
  methods := ms
  attributes := attrs
def plain (name : String) (sup : Option ClassId) : Class where
  name := name
  kind := .ordinary
  loader := none
  accessFlags := 33
  super := sup
  interfaces := #[]
  cf := none
  fields := #[]
  methods := #[]
  instanceTypes := #[]
  staticTypes := #[]
  resolved := #[]
  callSites := []
  init := .initialized
  statics := none
  mirror := none

def pool0 : Array CpInfo := pool [(5, u "<init>"), (0, u "()V"), (1, .class_ 10), (1, u "java/lang/Object")] 113

def k0c0 : Code := { maxStack := 0, maxLocals := 1, code := object_method_1_code, exceptionTable := #[], attributes := #[] }
def k0m0 : Method := { name := "<init>", desc := "()V", sig := { parameters := [], returnType := none }, accessFlags := 1, code := some k0c0 }
/-- java/lang/Object -/
def k0 : Class := { plain "java/lang/Object" none with
  accessFlags := 33
  interfaces := #[]
  cf := some (fileOf pool0 8 #[] #[{ accessFlags := 1, nameIndex := 5, descriptorIndex := 6, attributes := #[] }] 33 0 #[] #[])
  fields := #[]
  methods := #[k0m0]
  instanceTypes := #[]
  staticTypes := #[]
  resolved := Array.replicate 124 none
  statics := none }

def pool1 : Array CpInfo := pool [(2, .class_ 4), (1, u "java/lang/Object"), (0, u "<init>"), (0, u "()V"), (0, .class_ 8), (0, u "com/example/podflow/podflow/simulation/Arrivals"), (0, .methodref 7 10), (0, .nameAndType 5 11), (0, u "(I[I[J)V"), (0, .methodref 7 13), (0, .nameAndType 14 15), (0, u "first"), (0, u "(I)I"), (0, .methodref 17 18), (0, .class_ 19), (0, .nameAndType 20 21), (0, u "com/example/podflow/podflow/simulation/ArrivalsFirstPinLaw"), (0, u "ref"), (0, u "(IIIIJJJ)I"), (3, u "law"), (0, u "(IJJJ)Z")] 6

def k1m0 : Method := { name := "<init>", desc := "()V", sig := { parameters := [], returnType := none }, accessFlags := 1, code := none }
def k1c1 : Code := { maxStack := 4, maxLocals := 13, code := method_2_code, exceptionTable := #[], attributes := #[] }
def k1m1 : Method := { name := "ref", desc := "(IIIIJJJ)I", sig := { parameters := [.int, .int, .int, .int, .long, .long, .long], returnType := some .int }, accessFlags := 10, code := some k1c1 }
def k1c2 : Code := { maxStack := 11, maxLocals := 14, code := code, exceptionTable := #[], attributes := #[] }
def k1m2 : Method := { name := "law", desc := "(IJJJ)Z", sig := { parameters := [.int, .long, .long, .long], returnType := some .boolean }, accessFlags := 9, code := some k1c2 }
/-- com/example/podflow/podflow/simulation/ArrivalsFirstPinLaw -/
def k1 : Class := { plain "com/example/podflow/podflow/simulation/ArrivalsFirstPinLaw" (some 0) with
  accessFlags := 49
  interfaces := #[]
  cf := some (fileOf pool1 17 #[] #[{ accessFlags := 1, nameIndex := 5, descriptorIndex := 6, attributes := #[] }, { accessFlags := 10, nameIndex := 20, descriptorIndex := 21, attributes := #[] }, { accessFlags := 9, nameIndex := 25, descriptorIndex := 26, attributes := #[] }] 49 2 #[] #[])
  fields := #[]
  methods := #[k1m0, k1m1, k1m2]
  instanceTypes := #[]
  staticTypes := #[]
  resolved := Array.replicate 33 none
  statics := none }

def pool2 : Array CpInfo := pool [(1, .methodref 2 3), (0, .class_ 4), (0, .nameAndType 5 6), (0, u "java/lang/Object"), (0, u "<init>"), (0, u "()V"), (0, .fieldref 8 9), (0, .class_ 10), (0, .nameAndType 11 12), (0, u "com/example/podflow/podflow/simulation/Arrivals"), (0, u "destination"), (0, u "[I"), (0, .fieldref 8 14), (0, .nameAndType 15 16), (0, u "arrival"), (0, u "[J"), (0, .fieldref 8 18), (0, .nameAndType 19 20), (0, u "rows"), (0, u "[[I"), (0, .fieldref 8 22), (0, .nameAndType 23 12), (0, u "sizes"), (0, .class_ 20), (0, .methodref 8 26), (0, .nameAndType 5 27), (0, u "([I[J[[I[I)V"), (0, .methodref 8 29), (0, .nameAndType 30 31), (0, u "add"), (0, u "(I)V"), (10, .class_ 44), (1, u "java/util/Arrays"), (2, .methodref 48 49), (0, .class_ 50), (0, .nameAndType 51 52), (0, u "java/lang/Math"), (0, u "max"), (0, u "(II)I"), (0, .methodref 42 54), (0, .nameAndType 55 56), (0, u "copyOf"), (0, u "([II)[I"), (0, .methodref 8 58), (0, .nameAndType 59 60), (0, u "comesAfter"), (0, u "(II)Z"), (8, u "(I[I[J)V"), (4, u "first"), (0, u "(I)I")] 5

def k2c0 : Code := { maxStack := 2, maxLocals := 5, code := prog_55_method_1_code, exceptionTable := #[], attributes := #[] }
def k2m0 : Method := { name := "<init>", desc := "([I[J[[I[I)V", sig := { parameters := [(.array .int), (.array .long), (.array (.array .int)), (.array .int)], returnType := none }, accessFlags := 2, code := some k2c0 }
def k2c1 : Code := { maxStack := 5, maxLocals := 5, code := prog_55_method_2_code, exceptionTable := #[], attributes := #[] }
def k2m1 : Method := { name := "<init>", desc := "(I[I[J)V", sig := { parameters := [.int, (.array .int), (.array .long)], returnType := none }, accessFlags := 0, code := some k2c1 }
def k2c2 : Code := { maxStack := 2, maxLocals := 2, code := prog_55_method_4_code, exceptionTable := #[], attributes := #[] }
def k2m2 : Method := { name := "first", desc := "(I)I", sig := { parameters := [.int], returnType := some .int }, accessFlags := 0, code := some k2c2 }
def k2c3 : Code := { maxStack := 6, maxLocals := 6, code := prog_55_method_6_code, exceptionTable := #[], attributes := #[] }
def k2m3 : Method := { name := "add", desc := "(I)V", sig := { parameters := [.int], returnType := none }, accessFlags := 0, code := some k2c3 }
def k2c4 : Code := { maxStack := 4, maxLocals := 3, code := prog_55_method_8_code, exceptionTable := #[], attributes := #[] }
def k2m4 : Method := { name := "comesAfter", desc := "(II)Z", sig := { parameters := [.int, .int], returnType := some .boolean }, accessFlags := 2, code := some k2c4 }
/-- com/example/podflow/podflow/simulation/Arrivals -/
def k2 : Class := { plain "com/example/podflow/podflow/simulation/Arrivals" (some 0) with
  accessFlags := 48
  interfaces := #[]
  cf := some (fileOf pool2 8 #[] #[{ accessFlags := 2, nameIndex := 5, descriptorIndex := 27, attributes := #[] }, { accessFlags := 0, nameIndex := 5, descriptorIndex := 69, attributes := #[] }, { accessFlags := 0, nameIndex := 74, descriptorIndex := 75, attributes := #[] }, { accessFlags := 0, nameIndex := 30, descriptorIndex := 31, attributes := #[] }, { accessFlags := 2, nameIndex := 59, descriptorIndex := 60, attributes := #[] }] 48 2 #[] #[{ accessFlags := 18, nameIndex := 11, descriptorIndex := 12, attributes := #[] }, { accessFlags := 18, nameIndex := 15, descriptorIndex := 16, attributes := #[] }, { accessFlags := 18, nameIndex := 19, descriptorIndex := 20, attributes := #[] }, { accessFlags := 18, nameIndex := 23, descriptorIndex := 12, attributes := #[] }])
  fields := #[{ name := "destination", type := (.array .int), accessFlags := 18, slot := 0, constantValue := 0 }, { name := "arrival", type := (.array .long), accessFlags := 18, slot := 1, constantValue := 0 }, { name := "rows", type := (.array (.array .int)), accessFlags := 18, slot := 2, constantValue := 0 }, { name := "sizes", type := (.array .int), accessFlags := 18, slot := 3, constantValue := 0 }]
  methods := #[k2m0, k2m1, k2m2, k2m3, k2m4]
  instanceTypes := #[(.array .int), (.array .long), (.array (.array .int)), (.array .int)]
  staticTypes := #[]
  resolved := Array.replicate 81 none
  statics := none }

def pool3 : Array CpInfo := pool [(1, .class_ 2), (0, u "java/lang/Math"), (1, .class_ 6), (1, u "java/lang/Object"), (0, u "<init>"), (0, u "()V"), (89, .class_ 100), (1, u "java/lang/Math$RandomNumberGeneratorHolder"), (71, u "negativeZeroFloatBits"), (0, u "J"), (2, u "negativeZeroDoubleBits"), (21, u "max"), (2, u "min"), (43, u "$assertionsDisabled"), (0, u "Z"), (88, u "(II)I"), (2, u "twoToTheDoubleScaleDown"), (0, u "D"), (4, u "twoToTheDoubleScaleUp"), (9, u "E"), (3, u "PI"), (2, u "TAU"), (2, u "DEGREES_TO_RADIANS"), (0, u "RADIANS_TO_DEGREES")] 94

def k3m0 : Method := { name := "<init>", desc := "()V", sig := { parameters := [], returnType := none }, accessFlags := 2, code := none }
def k3c1 : Code := { maxStack := 2, maxLocals := 2, code := jdk_29_method_65_code, exceptionTable := #[], attributes := #[] }
def k3m1 : Method := { name := "max", desc := "(II)I", sig := { parameters := [.int, .int], returnType := some .int }, accessFlags := 9, code := some k3c1 }
def k3c2 : Code := { maxStack := 2, maxLocals := 2, code := jdk_29_method_69_code, exceptionTable := #[], attributes := #[] }
def k3m2 : Method := { name := "min", desc := "(II)I", sig := { parameters := [.int, .int], returnType := some .int }, accessFlags := 9, code := some k3c2 }
/-- java/lang/Math -/
def k3 : Class := { plain "java/lang/Math" (some 0) with
  accessFlags := 49
  interfaces := #[]
  cf := some (fileOf pool3 1 #[.nestMembers #[98]] #[{ accessFlags := 2, nameIndex := 7, descriptorIndex := 8, attributes := #[] }, { accessFlags := 9, nameIndex := 198, descriptorIndex := 335, attributes := #[] }, { accessFlags := 9, nameIndex := 201, descriptorIndex := 335, attributes := #[] }] 49 4 #[] #[{ accessFlags := 25, nameIndex := 354, descriptorIndex := 339, attributes := #[] }, { accessFlags := 25, nameIndex := 358, descriptorIndex := 339, attributes := #[] }, { accessFlags := 25, nameIndex := 361, descriptorIndex := 339, attributes := #[] }, { accessFlags := 26, nameIndex := 364, descriptorIndex := 339, attributes := #[] }, { accessFlags := 26, nameIndex := 365, descriptorIndex := 339, attributes := #[] }, { accessFlags := 26, nameIndex := 172, descriptorIndex := 173, attributes := #[] }, { accessFlags := 26, nameIndex := 176, descriptorIndex := 173, attributes := #[] }, { accessFlags := 8, nameIndex := 344, descriptorIndex := 339, attributes := #[] }, { accessFlags := 8, nameIndex := 338, descriptorIndex := 339, attributes := #[] }, { accessFlags := 4120, nameIndex := 245, descriptorIndex := 246, attributes := #[] }])
  fields := #[{ name := "E", type := .double, accessFlags := 25, slot := 0, constantValue := 0 }, { name := "PI", type := .double, accessFlags := 25, slot := 1, constantValue := 0 }, { name := "TAU", type := .double, accessFlags := 25, slot := 2, constantValue := 0 }, { name := "DEGREES_TO_RADIANS", type := .double, accessFlags := 26, slot := 3, constantValue := 0 }, { name := "RADIANS_TO_DEGREES", type := .double, accessFlags := 26, slot := 4, constantValue := 0 }, { name := "negativeZeroFloatBits", type := .long, accessFlags := 26, slot := 5, constantValue := 0 }, { name := "negativeZeroDoubleBits", type := .long, accessFlags := 26, slot := 6, constantValue := 0 }, { name := "twoToTheDoubleScaleUp", type := .double, accessFlags := 8, slot := 7, constantValue := 0 }, { name := "twoToTheDoubleScaleDown", type := .double, accessFlags := 8, slot := 8, constantValue := 0 }, { name := "$assertionsDisabled", type := .boolean, accessFlags := 4120, slot := 9, constantValue := 0 }]
  methods := #[k3m0, k3m1, k3m2]
  instanceTypes := #[]
  staticTypes := #[.double, .double, .double, .double, .double, .long, .long, .double, .double, .boolean]
  resolved := Array.replicate 460 none
  statics := none }

def pool4 : Array CpInfo := pool [(2, .class_ 4), (1, u "java/lang/Object"), (0, u "<init>"), (0, u "()V"), (7, .class_ 16), (1, u "java/util/Arrays"), (57, .class_ 76), (1, u "java/util/Arrays$NaturalOrder"), (36, .class_ 115), (1, u "java/util/Arrays$LegacyMergeSort"), (1, u "Z"), (32, .methodref 151 152), (0, .class_ 153), (0, .nameAndType 154 155), (0, u "java/lang/System"), (0, u "arraycopy"), (0, u "(Ljava/lang/Object;ILjava/lang/Object;II)V"), (146, u "copyOf"), (1, .methodref 305 306), (0, .class_ 307), (0, .nameAndType 308 309), (0, u "java/lang/Math"), (0, u "min"), (0, u "(II)I"), (65, .class_ 376), (0, u "java/util/Arrays$ArrayList"), (68, u "$assertionsDisabled"), (269, u "MIN_ARRAY_SORT_GRAN"), (0, u "I"), (2, u "INSERTIONSORT_THRESHOLD"), (151, u "([II)[I"), (103, .class_ 976), (0, u "java/util/Arrays$ArrayItr")] 52

def k4m0 : Method := { name := "<init>", desc := "()V", sig := { parameters := [], returnType := none }, accessFlags := 2, code := none }
def k4c1 : Code := { maxStack := 6, maxLocals := 3, code := jdk_65_method_123_code, exceptionTable := #[], attributes := #[] }
def k4m1 : Method := { name := "copyOf", desc := "([II)[I", sig := { parameters := [(.array .int), .int], returnType := some (.array .int) }, accessFlags := 9, code := some k4c1 }
/-- java/util/Arrays -/
def k4 : Class := { plain "java/util/Arrays" (some 0) with
  accessFlags := 49
  interfaces := #[]
  cf := some (fileOf pool4 14 #[.nestMembers #[975, 375, 113, 74]] #[{ accessFlags := 2, nameIndex := 5, descriptorIndex := 6, attributes := #[] }, { accessFlags := 9, nameIndex := 302, descriptorIndex := 871, attributes := #[] }] 49 2 #[] #[{ accessFlags := 26, nameIndex := 715, descriptorIndex := 716, attributes := #[] }, { accessFlags := 26, nameIndex := 719, descriptorIndex := 716, attributes := #[] }, { accessFlags := 4120, nameIndex := 445, descriptorIndex := 117, attributes := #[] }])
  fields := #[{ name := "MIN_ARRAY_SORT_GRAN", type := .int, accessFlags := 26, slot := 0, constantValue := 0 }, { name := "INSERTIONSORT_THRESHOLD", type := .int, accessFlags := 26, slot := 1, constantValue := 0 }, { name := "$assertionsDisabled", type := .boolean, accessFlags := 4120, slot := 2, constantValue := 0 }]
  methods := #[k4m0, k4m1]
  instanceTypes := #[]
  staticTypes := #[.int, .int, .boolean]
  resolved := Array.replicate 1029 none
  statics := none }

def pool5 : Array CpInfo := pool [(2, .class_ 4), (1, u "java/lang/Object"), (0, u "<init>"), (0, u "()V"), (1, .class_ 10), (1, u "java/lang/System"), (0, u "allowSecurityManager"), (0, u "I"), (16, u "cons"), (0, u "Ljava/io/Console;"), (77, .class_ 110), (1, u "java/lang/System$CallersHolder"), (43, u "initialErrStream"), (0, u "Ljava/io/PrintStream;"), (19, u "security"), (0, u "Ljava/lang/SecurityManager;"), (31, .class_ 209), (0, u "java/lang/System$1"), (7, u "props"), (0, u "Ljava/util/Properties;"), (2, u "lineSeparator"), (0, u "Ljava/lang/String;"), (96, .class_ 321), (1, u "java/lang/System$LoggerFinder"), (5, .class_ 328), (0, u "java/lang/System$Logger"), (67, u "err"), (2, u "out"), (91, u "notSupportedJnuEncoding"), (15, u "in"), (17, u "initialIn"), (0, u "Ljava/io/InputStream;"), (35, u "bootLayer"), (0, u "Ljava/lang/ModuleLayer;"), (99, .class_ 664), (0, u "java/lang/System$2"), (9, u "NEVER"), (2, u "MAYBE"), (49, u "arraycopy"), (0, u "(Ljava/lang/Object;ILjava/lang/Object;II)V"), (72, .class_ 802), (0, u "java/lang/System$Logger$Level")] 31

def k5m0 : Method := { name := "<init>", desc := "()V", sig := { parameters := [], returnType := none }, accessFlags := 2, code := none }
def k5m1 : Method := { name := "arraycopy", desc := "(Ljava/lang/Object;ILjava/lang/Object;II)V", sig := { parameters := [(.object "java/lang/Object"), .int, (.object "java/lang/Object"), .int, .int], returnType := none }, accessFlags := 265, code := none }
/-- java/lang/System -/
def k5 : Class := { plain "java/lang/System" (some 0) with
  accessFlags := 49
  interfaces := #[]
  cf := some (fileOf pool5 8 #[.nestMembers #[319, 327, 801, 108, 663, 208]] #[{ accessFlags := 2, nameIndex := 5, descriptorIndex := 6, attributes := #[] }, { accessFlags := 265, nameIndex := 727, descriptorIndex := 728, attributes := #[] }] 49 2 #[] #[{ accessFlags := 25, nameIndex := 507, descriptorIndex := 526, attributes := #[] }, { accessFlags := 25, nameIndex := 399, descriptorIndex := 155, attributes := #[] }, { accessFlags := 25, nameIndex := 396, descriptorIndex := 155, attributes := #[] }, { accessFlags := 10, nameIndex := 525, descriptorIndex := 526, attributes := #[] }, { accessFlags := 26, nameIndex := 674, descriptorIndex := 12, attributes := #[] }, { accessFlags := 26, nameIndex := 677, descriptorIndex := 12, attributes := #[] }, { accessFlags := 10, nameIndex := 11, descriptorIndex := 12, attributes := #[] }, { accessFlags := 74, nameIndex := 175, descriptorIndex := 176, attributes := #[] }, { accessFlags := 10, nameIndex := 491, descriptorIndex := 222, attributes := #[] }, { accessFlags := 74, nameIndex := 29, descriptorIndex := 30, attributes := #[] }, { accessFlags := 74, nameIndex := 154, descriptorIndex := 155, attributes := #[] }, { accessFlags := 10, nameIndex := 217, descriptorIndex := 218, attributes := #[] }, { accessFlags := 10, nameIndex := 221, descriptorIndex := 222, attributes := #[] }, { accessFlags := 8, nameIndex := 562, descriptorIndex := 563, attributes := #[] }])
  fields := #[{ name := "in", type := (.object "java/io/InputStream"), accessFlags := 25, slot := 0, constantValue := 0 }, { name := "out", type := (.object "java/io/PrintStream"), accessFlags := 25, slot := 1, constantValue := 0 }, { name := "err", type := (.object "java/io/PrintStream"), accessFlags := 25, slot := 2, constantValue := 0 }, { name := "initialIn", type := (.object "java/io/InputStream"), accessFlags := 10, slot := 3, constantValue := 0 }, { name := "NEVER", type := .int, accessFlags := 26, slot := 4, constantValue := 0 }, { name := "MAYBE", type := .int, accessFlags := 26, slot := 5, constantValue := 0 }, { name := "allowSecurityManager", type := .int, accessFlags := 10, slot := 6, constantValue := 0 }, { name := "security", type := (.object "java/lang/SecurityManager"), accessFlags := 74, slot := 7, constantValue := 0 }, { name := "notSupportedJnuEncoding", type := (.object "java/lang/String"), accessFlags := 10, slot := 8, constantValue := 0 }, { name := "cons", type := (.object "java/io/Console"), accessFlags := 74, slot := 9, constantValue := 0 }, { name := "initialErrStream", type := (.object "java/io/PrintStream"), accessFlags := 74, slot := 10, constantValue := 0 }, { name := "props", type := (.object "java/util/Properties"), accessFlags := 10, slot := 11, constantValue := 0 }, { name := "lineSeparator", type := (.object "java/lang/String"), accessFlags := 10, slot := 12, constantValue := 0 }, { name := "bootLayer", type := (.object "java/lang/ModuleLayer"), accessFlags := 8, slot := 13, constantValue := 0 }]
  methods := #[k5m0, k5m1]
  instanceTypes := #[]
  staticTypes := #[(.object "java/io/InputStream"), (.object "java/io/PrintStream"), (.object "java/io/PrintStream"), (.object "java/io/InputStream"), .int, .int, .int, (.object "java/lang/SecurityManager"), (.object "java/lang/String"), (.object "java/io/Console"), (.object "java/io/PrintStream"), (.object "java/util/Properties"), (.object "java/lang/String"), (.object "java/lang/ModuleLayer")]
  resolved := Array.replicate 834 none
  statics := none }

def pool6 : Array CpInfo := pool [(1, u "java/lang/Cloneable"), (0, .class_ 1), (0, u "java/lang/Object"), (0, .class_ 3)] 3

/-- java/lang/Cloneable -/
def k6 : Class := { plain "java/lang/Cloneable" (some 0) with
  accessFlags := 1537
  interfaces := #[]
  cf := some (fileOf pool6 2 #[] #[] 1537 4 #[] #[])
  fields := #[]
  methods := #[]
  instanceTypes := #[]
  staticTypes := #[]
  resolved := Array.replicate 8 none
  statics := none }

def pool7 : Array CpInfo := pool [(1, u "java/io/Serializable"), (0, .class_ 1), (0, u "java/lang/Object"), (0, .class_ 3)] 3

/-- java/io/Serializable -/
def k7 : Class := { plain "java/io/Serializable" (some 0) with
  accessFlags := 1537
  interfaces := #[]
  cf := some (fileOf pool7 2 #[] #[] 1537 4 #[] #[])
  fields := #[]
  methods := #[]
  instanceTypes := #[]
  staticTypes := #[]
  resolved := Array.replicate 8 none
  statics := none }

/-- the primitive byte -/
def k8 : Class := { plain "byte" none with kind := .primitive 'B', accessFlags := 0x411 }
/-- [B -/
def k9 : Class := { plain "[B" (some 0) with kind := .array 8 .byte, interfaces := #[6, 7], accessFlags := 1041 }

/-- the primitive int -/
def k10 : Class := { plain "int" none with kind := .primitive 'I', accessFlags := 0x411 }
/-- [I -/
def k11 : Class := { plain "[I" (some 0) with kind := .array 10 .int, interfaces := #[6, 7], accessFlags := 1041 }

/-- the primitive long -/
def k12 : Class := { plain "long" none with kind := .primitive 'J', accessFlags := 0x411 }
/-- [J -/
def k13 : Class := { plain "[J" (some 0) with kind := .array 12 .long, interfaces := #[6, 7], accessFlags := 1041 }
def k14 : Class := { plain "[[I" (some 0) with kind := .array 11 (.array .int), interfaces := #[6, 7], accessFlags := 1041 }

def heap : Heap := #[]
def classes : Array Class := #[k0, k1, k2, k3, k4, k5, k6, k7, k8, k9, k10, k11, k12, k13, k14]
def interned : List (Array UInt16 × Addr) := []
def slotsUsed : Nat := 0
def theMethod : MethodId := ⟨1, 2⟩
def args0 : Array Value := #[.int 5, .long 3, .long 4, .long 1]
def aboutOver (below : List Frame) : State where
  vm := { classes := classes, interned := interned.toArray }
  heap := heap
  slotsUsed := slotsUsed
  threads := #[{ frames := .invoking theMethod args0 :: below }]
def below0 : List Frame := [.native { method := ⟨0, 0⟩, args := #[] }]
def about1 : State := aboutOver below0
def p0 : Program := .bare "" "" ""
def e0 : Env := launch0.env 0 0 0
theorem w_frames : about1.frames = Frame.invoking theMethod args0 :: below0 := rfl
set_option maxRecDepth 65536 in
theorem w_args : argsFit about1.vm theMethod args0 = true := by decide +kernel
set_option maxRecDepth 65536 in
theorem w_heap : heapFits about1 = true := by decide +kernel
set_option maxRecDepth 65536 in
theorem w_runnable : about1.curStatus? = some .runnable := by decide +kernel
set_option maxRecDepth 65536 in
theorem w_alone : about1.alone = true := by decide +kernel
set_option maxRecDepth 65536 in
theorem w_named : about1.methodNamed? x = some theMethod := by decide +kernel
set_option maxRecDepth 65536 in
theorem w_hears : about1.hears theMethod below0 = true := by decide +kernel
set_option maxRecDepth 65536 in
theorem w_ripe : about1.ripe theMethod args0 below0 = true := by decide +kernel
theorem w_running : about1.status = .running := rfl
set_option maxRecDepth 65536 in
theorem w_room : about1.hasRoom e0.platform room_1 = true :=
  launch0.hasRoom_least _ room_1 (by decide +kernel) (by decide +kernel) (by decide +kernel) (by decide +kernel) (by decide +kernel) (by decide +kernel)
theorem allAtoms_all (ts : List Jvm.Cond) (a : Array Jvm.Value) (st : Jvm.State) : (allAtoms ts).before a st = ts.all (fun c => c.before a st) := by
  induction ts with
  | nil => rfl
  | cons c t ih =>
    show (Jvm.Cond.and c (allAtoms t)).before a st = _
    rw [Jvm.Cond.before_and, ih, List.all_cons]
def words1 : List Jvm.Cond := Jvm.Cond.code x code maxLocals ret :: tables_1
/-- a 'code' word, met by the world's own term for the bytes: nothing is compared byte by byte -/
theorem code_word {y : MethodName} {bytes : ByteArray} {mx : Nat} {rt : Option FieldType} {a : Array Value} {s : State} {m : MethodId} {meth : Method} {c : Code} (h1 : s.methodNamed? y = some m) (h2 : s.vm.method? m = some meth) (h3 : meth.code = some c) (h4 : c.code = bytes)
    (h5 : (c.maxLocals == mx && c.exceptionTable.isEmpty && decide (c.maxStack ≤ mostOperands) && decide (meth.sig.returnType = rt) && !meth.locks && decide (parseMethodDescriptor y.desc = some meth.sig)) = true) : (Jvm.Cond.code y bytes mx rt).before a s = true := by
  simp only [Bool.and_eq_true, beq_iff_eq, Bool.not_eq_true', decide_eq_true_eq] at h5
  obtain ⟨⟨⟨⟨⟨g1, g2⟩, g3⟩, g4⟩, g5⟩, g6⟩ := h5
  simp [Cond.before, Cond.holds, Cond.value, h1, h2, h3, h4, g1, g2, g3, g4, g5, g6]
def isCode : Jvm.Cond → Bool
  | .code _ _ _ _ => true
  | _ => false
theorem all_split {L : List Jvm.Cond} {P : Jvm.Cond → Bool} (h1 : L.all (fun c => isCode c || P c) = true) (h2 : ∀ c ∈ L.filter isCode, P c = true) : L.all P = true := by
  refine List.all_eq_true.mpr fun c hc => ?_
  have h := List.all_eq_true.mp h1 c hc
  rcases Bool.eq_false_or_eq_true (isCode c) with hi | hi
  · exact h2 c (List.mem_filter.mpr ⟨hc, hi⟩)
  · simpa [hi] using h
set_option maxRecDepth 65536 in
theorem w_c0 : (Jvm.Cond.code x code maxLocals ret).before args0 about1 = true := code_word (m := ⟨1, 2⟩) (meth := k1m2) (c := k1c2) (by decide +kernel) rfl rfl rfl (by decide +kernel)
set_option maxRecDepth 65536 in
theorem w_c1 : (Jvm.Cond.code ({ cls := "com/example/podflow/podflow/simulation/Arrivals", name := "<init>", desc := "(I[I[J)V" } : Jvm.MethodName) prog_55_method_2_code (5 : Nat) (Option.none : Option Jvm.ClassFile.FieldType)).before args0 about1 = true := code_word (m := ⟨2, 1⟩) (meth := k2m1) (c := k2c1) (by decide +kernel) rfl rfl rfl (by decide +kernel)
set_option maxRecDepth 65536 in
theorem w_c2 : (Jvm.Cond.code ({ cls := "com/example/podflow/podflow/simulation/Arrivals", name := "<init>", desc := "([I[J[[I[I)V" } : Jvm.MethodName) prog_55_method_1_code (5 : Nat) (Option.none : Option Jvm.ClassFile.FieldType)).before args0 about1 = true := code_word (m := ⟨2, 0⟩) (meth := k2m0) (c := k2c0) (by decide +kernel) rfl rfl rfl (by decide +kernel)
set_option maxRecDepth 65536 in
theorem w_c3 : (Jvm.Cond.code ({ cls := "java/lang/Object", name := "<init>", desc := "()V" } : Jvm.MethodName) object_method_1_code (1 : Nat) (Option.none : Option Jvm.ClassFile.FieldType)).before args0 about1 = true := code_word (m := ⟨0, 0⟩) (meth := k0m0) (c := k0c0) (by decide +kernel) rfl rfl rfl (by decide +kernel)
set_option maxRecDepth 65536 in
theorem w_c4 : (Jvm.Cond.code ({ cls := "com/example/podflow/podflow/simulation/Arrivals", name := "add", desc := "(I)V" } : Jvm.MethodName) prog_55_method_6_code (6 : Nat) (Option.none : Option Jvm.ClassFile.FieldType)).before args0 about1 = true := code_word (m := ⟨2, 3⟩) (meth := k2m3) (c := k2c3) (by decide +kernel) rfl rfl rfl (by decide +kernel)
set_option maxRecDepth 65536 in
theorem w_c5 : (Jvm.Cond.code ({ cls := "java/lang/Math", name := "max", desc := "(II)I" } : Jvm.MethodName) jdk_29_method_65_code (2 : Nat) (Option.some Jvm.ClassFile.FieldType.int)).before args0 about1 = true := code_word (m := ⟨3, 1⟩) (meth := k3m1) (c := k3c1) (by decide +kernel) rfl rfl rfl (by decide +kernel)
set_option maxRecDepth 65536 in
theorem w_c6 : (Jvm.Cond.code ({ cls := "java/util/Arrays", name := "copyOf", desc := "([II)[I" } : Jvm.MethodName) jdk_65_method_123_code (3 : Nat) (Option.some (Jvm.ClassFile.FieldType.array Jvm.ClassFile.FieldType.int))).before args0 about1 = true := code_word (m := ⟨4, 1⟩) (meth := k4m1) (c := k4c1) (by decide +kernel) rfl rfl rfl (by decide +kernel)
set_option maxRecDepth 65536 in
theorem w_c7 : (Jvm.Cond.code ({ cls := "java/lang/Math", name := "min", desc := "(II)I" } : Jvm.MethodName) jdk_29_method_69_code (2 : Nat) (Option.some Jvm.ClassFile.FieldType.int)).before args0 about1 = true := code_word (m := ⟨3, 2⟩) (meth := k3m2) (c := k3c2) (by decide +kernel) rfl rfl rfl (by decide +kernel)
set_option maxRecDepth 65536 in
theorem w_c8 : (Jvm.Cond.code ({ cls := "com/example/podflow/podflow/simulation/Arrivals", name := "comesAfter", desc := "(II)Z" } : Jvm.MethodName) prog_55_method_8_code (3 : Nat) (Option.some Jvm.ClassFile.FieldType.boolean)).before args0 about1 = true := code_word (m := ⟨2, 4⟩) (meth := k2m4) (c := k2c4) (by decide +kernel) rfl rfl rfl (by decide +kernel)
set_option maxRecDepth 65536 in
theorem w_c9 : (Jvm.Cond.code ({ cls := "com/example/podflow/podflow/simulation/Arrivals", name := "first", desc := "(I)I" } : Jvm.MethodName) prog_55_method_4_code (2 : Nat) (Option.some Jvm.ClassFile.FieldType.int)).before args0 about1 = true := code_word (m := ⟨2, 2⟩) (meth := k2m2) (c := k2c2) (by decide +kernel) rfl rfl rfl (by decide +kernel)
set_option maxRecDepth 65536 in
theorem w_c10 : (Jvm.Cond.code ({ cls := "com/example/podflow/podflow/simulation/ArrivalsFirstPinLaw", name := "ref", desc := "(IIIIJJJ)I" } : Jvm.MethodName) method_2_code (13 : Nat) (Option.some Jvm.ClassFile.FieldType.int)).before args0 about1 = true := code_word (m := ⟨1, 1⟩) (meth := k1m1) (c := k1c1) (by decide +kernel) rfl rfl rfl (by decide +kernel)
def codes1 : List Jvm.Cond := [Jvm.Cond.code x code maxLocals ret, Jvm.Cond.code ({ cls := "com/example/podflow/podflow/simulation/Arrivals", name := "<init>", desc := "(I[I[J)V" } : Jvm.MethodName) prog_55_method_2_code (5 : Nat) (Option.none : Option Jvm.ClassFile.FieldType), Jvm.Cond.code ({ cls := "com/example/podflow/podflow/simulation/Arrivals", name := "<init>", desc := "([I[J[[I[I)V" } : Jvm.MethodName) prog_55_method_1_code (5 : Nat) (Option.none : Option Jvm.ClassFile.FieldType), Jvm.Cond.code ({ cls := "java/lang/Object", name := "<init>", desc := "()V" } : Jvm.MethodName) object_method_1_code (1 : Nat) (Option.none : Option Jvm.ClassFile.FieldType), Jvm.Cond.code ({ cls := "com/example/podflow/podflow/simulation/Arrivals", name := "add", desc := "(I)V" } : Jvm.MethodName) prog_55_method_6_code (6 : Nat) (Option.none : Option Jvm.ClassFile.FieldType), Jvm.Cond.code ({ cls := "java/lang/Math", name := "max", desc := "(II)I" } : Jvm.MethodName) jdk_29_method_65_code (2 : Nat) (Option.some Jvm.ClassFile.FieldType.int), Jvm.Cond.code ({ cls := "java/util/Arrays", name := "copyOf", desc := "([II)[I" } : Jvm.MethodName) jdk_65_method_123_code (3 : Nat) (Option.some (Jvm.ClassFile.FieldType.array Jvm.ClassFile.FieldType.int)), Jvm.Cond.code ({ cls := "java/lang/Math", name := "min", desc := "(II)I" } : Jvm.MethodName) jdk_29_method_69_code (2 : Nat) (Option.some Jvm.ClassFile.FieldType.int), Jvm.Cond.code ({ cls := "com/example/podflow/podflow/simulation/Arrivals", name := "comesAfter", desc := "(II)Z" } : Jvm.MethodName) prog_55_method_8_code (3 : Nat) (Option.some Jvm.ClassFile.FieldType.boolean), Jvm.Cond.code ({ cls := "com/example/podflow/podflow/simulation/Arrivals", name := "first", desc := "(I)I" } : Jvm.MethodName) prog_55_method_4_code (2 : Nat) (Option.some Jvm.ClassFile.FieldType.int), Jvm.Cond.code ({ cls := "com/example/podflow/podflow/simulation/ArrivalsFirstPinLaw", name := "ref", desc := "(IIIIJJJ)I" } : Jvm.MethodName) method_2_code (13 : Nat) (Option.some Jvm.ClassFile.FieldType.int)]
set_option maxRecDepth 65536 in
theorem codes_eq : words1.filter isCode = codes1 := rfl
theorem w_codes : ∀ c ∈ words1.filter isCode, c.before args0 about1 = true := by
  rw [codes_eq]
  intro c hc
  simp only [codes1, List.mem_cons, List.not_mem_nil, or_false] at hc
  rcases hc with rfl | rfl | rfl | rfl | rfl | rfl | rfl | rfl | rfl | rfl | rfl
  · exact w_c0
  · exact w_c1
  · exact w_c2
  · exact w_c3
  · exact w_c4
  · exact w_c5
  · exact w_c6
  · exact w_c7
  · exact w_c8
  · exact w_c9
  · exact w_c10
set_option maxRecDepth 65536 in
theorem w_t1 : (words1.take 24).all (fun c => isCode c || c.before args0 about1) = true := by decide +kernel
set_option maxRecDepth 65536 in
theorem w_t2 : ((words1.drop 24).take 24).all (fun c => isCode c || c.before args0 about1) = true := by decide +kernel
set_option maxRecDepth 65536 in
theorem w_t3 : ((words1.drop 24).drop 24).all (fun c => isCode c || c.before args0 about1) = true := by decide +kernel
theorem w_tables : (allAtoms (Jvm.Cond.code x code maxLocals ret :: tables_1)).before args0 about1 = true := by
  rw [allAtoms_all]
  show words1.all (fun c => c.before args0 about1) = true
  refine all_split ?_ w_codes
  rw [← List.take_append_drop 24 words1, List.all_append, w_t1, ← List.take_append_drop 24 (words1.drop 24), List.all_append, w_t2, w_t3]
  rfl
set_option maxRecDepth 65536 in
theorem w_case : (Jvm.Cond.and given_1 narrow_1).before args0 about1 = true := by decide +kernel
theorem w_applies : (headSpec (Jvm.Cond.code x code maxLocals ret :: tables_1) room_1).applies x e0.platform about1 = true :=
  (Spec.applies_iff w_frames).mpr ⟨w_running, w_runnable, w_alone, w_named, w_hears, w_ripe, w_room, w_tables⟩
theorem atStart : AtStart classFile x code maxLocals ret World_1 tables_1 room_1 Calls_1 rest_1 Pre_1 launch0 p0 e0 about1 theMethod args0 below0 :=
  ⟨lists_1, trivial, launch0.admits_env _ _ _, launch0.least_env, fairChoices_fair.cas, fairChoices_fair.clock, w_frames, w_args, w_heap, w_applies, trivial, trivial, w_case⟩
end start1
theorem witness_1 : WitnessClaimed_1 := ⟨start1.p0, start1.e0, start1.about1, start1.theMethod, start1.args0, start1.below0, start1.atStart⟩
end Jvm.Pilot.@@N@@
