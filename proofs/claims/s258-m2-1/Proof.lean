import JvmDerived
import JvmDerived.Pilot.@@N@@Statement
import JvmDerived.Pilot.@@N@@Code
set_option linter.unusedVariables false
set_option linter.unusedSimpArgs false
namespace Jvm.RoadKit
open Sem ClassFile Op Lib Jvm.Stand Jvm.Free Jvm.LawKit
def IAr (Z : State) (h : Heap) (a : Addr) (ty : FieldType) (n : Int32) (f : Nat → Int32) : Prop := ∃ c : Cell, Arr Z h a c ty ∧ c.slots.size = n.toNatClampNeg ∧ ¬ n < 0 ∧ ∀ i, i < c.slots.size → c.slots[i]? = some (.int (f i))
def ownU (f : Nat → Int32) (j : Nat) (v : Int32) : Nat → Int32 := fun i => if i = j then v else f i
section
variable {Z : State} {h h' : Heap} {a b : Addr} {ty : FieldType} {n : Int32} {f : Nat → Int32} {sl : Nat} {v : Value} {ws : List Addr}
theorem IAr.lt (F : IAr Z h a ty n f) : a < h.size := by obtain ⟨c, A, -⟩ := F; exact A.lt
theorem IAr.ext (F : IAr Z h a ty n f) (E : Ext h h') : IAr Z h' a ty n f := by obtain ⟨c, A, r⟩ := F; exact ⟨c, A.ext E, r⟩
theorem IAr.other (F : IAr Z h b ty n f) (W : Wr h h' a sl v) (q : b ≠ a) : IAr Z h' b ty n f := by obtain ⟨c, A, r⟩ := F; exact ⟨c, A.other W q, r⟩
theorem IAr.keep (F : IAr Z h a ty n f) (K : Keep h h' ws) (q : a ∉ ws) : IAr Z h' a ty n f := by obtain ⟨c, A, r⟩ := F; exact ⟨c, ⟨K.2.1 a c A.1 q, A.2⟩, r⟩
theorem IAr.nn (F : IAr Z h a ty n f) : ¬ n < 0 := by obtain ⟨c, A, S, q, r⟩ := F; exact q
theorem IAr.new {k : ClassId} {z : Int32} (A : Arr Z h a (newA k ty z) ty) (q : ¬ z < 0) (hd : defaultValue ty = .int 0) : IAr Z h a ty z (fun _ => 0) := by
  obtain ⟨c, A', -, S, q', H, -⟩ := Arv.new A q
  exact ⟨c, A', S, q', fun i hi => by have h1 := H i hi; rw [hd] at h1; simpa using h1⟩
theorem IAr.set {j : Nat} {x : Int32} (F : IAr Z h a ty n f) (W : Wr h h' a j (.int x)) : IAr Z h' a ty n (ownU f j x) := by
  obtain ⟨c, A, S, q, H⟩ := F
  refine ⟨c.setSlot j (.int x), A.same W, ?_, q, fun i hi => ?_⟩
  · simpa [Cell.setSlot] using S
  · have hi' : i < c.slots.size := by simpa [Cell.setSlot] using hi
    show (c.slots.setIfInBounds j (.int x))[i]? = some (.int (if i = j then x else f i))
    by_cases e : i = j
    · subst e
      rw [if_pos rfl, Array.getElem?_setIfInBounds_self_of_lt hi']
    · rw [if_neg e, Array.getElem?_setIfInBounds_ne (Ne.symm e)]
      exact H i hi'
end
section New
variable {p : Program} {l : Launch} {e : Env} {R : Room} {s : State} {m : MethodId} {args : Array Value} {below : List Frame} {meth : Method} {c : Code} {T : State} {locs : List Loc} {cells slots : Nat}
theorem retI (X : Stand p l e R s m args below meth c T locs cells slots) (hx : p.tables.exec = Jvm.exec) {pc : Nat} {Ls : Array Slot} {z : Int32} {rest : List Value} (hret : meth.sig.returnType = some .int) (hd : decode c.code pc = .ok (.ireturn, 1)) {fs : List Frame}
    (hl : ∀ (f : JFrame) (acts : List Action), f.method = m → f.locked = none → f.entered = [] → (doReturn e (T.setTop f) acts (some (.int z))).1 = T.setFrames fs) : Steps p.tables e below (T.setTop (mkF m pc Ls (.int z :: rest))) (T.setFrames fs) := by
  have hm' : T.vm.method? m = some meth := X.method'
  have hn : narrow .int (.int z) = .int z := rfl
  show Steps p.tables e below (T.setTop { method := m, pc := pc, locals := Ls, stack := _ :: rest, locked := none }) _
  jvm_step X.here [X.here.top, hx, hd, hm', hret, hn]
  first | (intro acts; rw [hl _ acts rfl rfl rfl]) | rw [hl _ _ rfl rfl rfl]
  exact Steps.refl _
theorem ldB {Z : State} {h : Heap} (X : Stand p l e R s m args below meth c T locs cells slots) (hx : p.tables.exec = Jvm.exec) (hZ : Z.Warmed39 s.vm) (eT : T.heap = h) {a : Addr} {n : Int32} {f : Nat → Int32} (F : IAr Z h a .byte n f) {j : Int32} (hj : ¬ j < 0 ∧ j < n) {g : JFrame} (hg : g.method = m) {rest : List Value} (hs : g.stack = .int j :: .ref a :: rest) (hd : decode c.code g.pc = .ok (.baload, 1)) {target : State}
    (hr : Steps p.tables e below (T.setTop { g with pc := g.pc + 1, stack := .int (f j.toNatClampNeg) :: rest }) target) : Steps p.tables e below (T.setTop g) target := by
  obtain ⟨cl, A, S, q, H⟩ := F
  exact X.baloadBytes hx (by rw [eT]; exact A.1) (State.isArrayOf_alike hZ.alike A.2.1) A.2.2 (inb_of S hj) (H _ (Nat.lt_of_not_le fun y => inb_of S hj (Or.inr y))) hg hs hd _ hr
theorem sB {Z : State} {h : Heap} (X : Stand p l e R s m args below meth c T locs cells slots) (hx : p.tables.exec = Jvm.exec) (hZ : Z.Warmed39 s.vm) (eT : T.heap = h) {a : Addr} {n : Int32} {f : Nat → Int32} (F : IAr Z h a .byte n f) {j : Int32} {x : Int32} (hj : ¬ j < 0 ∧ j < n) {g : JFrame} (hg : g.method = m) {rest : List Value} (hs : g.stack = .int x :: .int j :: .ref a :: rest) (hd : decode c.code g.pc = .ok (.bastore, 1)) :
    ∃ T' h', Stand p l e R s m args below meth c T' (locs ++ [⟨a, j.toNatClampNeg⟩]) cells slots ∧ T'.heap = h' ∧ Wr h h' a j.toNatClampNeg (.int (nar .byte x)) ∧ IAr Z h' a .byte n (ownU f j.toNatClampNeg (nar .byte x)) ∧ ∀ target, Steps p.tables e below (T'.setTop { g with pc := g.pc + 1, stack := rest }) target → Steps p.tables e below (T.setTop g) target := by
  have F' := F
  obtain ⟨cl, A, S, q, H⟩ := F
  obtain ⟨T', h', X', e', W', st'⟩ := stB X hx hZ eT A (inb_of S hj) hg hs hd
  exact ⟨T', h', X', e', W', F'.set W', st'⟩
theorem alen {Z : State} {h : Heap} (X : Stand p l e R s m args below meth c T locs cells slots) (hx : p.tables.exec = Jvm.exec) (hZ : Z.Warmed39 s.vm) (eT : T.heap = h) {a : Addr} {ty : FieldType} {n : Int32} {f : Nat → Int32} (F : IAr Z h a ty n f) {g : JFrame} (hg : g.method = m) {rest : List Value} (hs : g.stack = .ref a :: rest) (hd : decode c.code g.pc = .ok (.arraylength, 1)) {target : State}
    (hr : Steps p.tables e below (T.setTop { g with pc := g.pc + 1, stack := .int n :: rest }) target) : Steps p.tables e below (T.setTop g) target := by
  obtain ⟨cl, A, S, q, H⟩ := F
  refine X.arraylength hx (by rw [eT]; exact A.1) (State.isArrayOf_alike hZ.alike A.2.1) hg hs hd _ ?_
  rw [len_of S q]
  exact hr
end New
end Jvm.RoadKit
namespace Jvm.Pilot.@@N@@
open Jvm Jvm.ClassFile Sem Op Lib Jvm.Free Jvm.Stand Jvm.LawKit Jvm.RoadKit Bundle Jvm.Pilot.@@N@@.Jvm.D
theorem own_eqint {t : Term} {n : Int32} {args : Array Value} {s : State} {idx : List Nat} (h : (Cond.eq t (.int n)).value args s none s idx = some true) : t.eval args s none idx s = some (.int n) := by
  have hn : (Term.int n).eval args s none idx s = some (.int n) := rfl
  simp only [Cond.value] at h
  rw [hn] at h
  cases hv : t.eval args s none idx s with
  | none => simp [hv] at h
  | some v =>
    cases v with
    | int x => simp [hv] at h; rw [h]
    | _ => simp [hv] at h
theorem own_orv {a b : Cond} {args : Array Value} {s : State} {idx : List Nat} (h : (Cond.or a b).value args s none s idx = some true) : a.value args s none s idx = some true ∨ b.value args s none s idx = some true := by
  simp only [Cond.value] at h
  cases ha : a.value args s none s idx with
  | none => simp [ha] at h
  | some x => cases x with
    | true => exact Or.inl rfl
    | false => simp [ha] at h; exact Or.inr h
theorem own_elemv {args : Array Value} {s : State} {t u : Term} {idx : List Nat} {a : Addr} {j v : Int32} {cl : Cell} (ht : t.eval args s none idx s = some (.ref a)) (hu : u.eval args s none idx s = some (.int j)) (hc : s.heap[a]? = some cl) (h : (Cond.eq (Term.elem t u) (.int v)).value args s none s idx = some true) : atv cl j = v :=
  atv_of (elem_in (own_eqint h) ht hu hc).2
theorem own_ofTab {Z : State} {h : Heap} {a : Addr} {cl : Cell} {ty : FieldType} {z : Int32} (T : Tab Z h a cl ty z) (q : cl.slots.size < 2 ^ 31) : IAr Z h a ty z (fun i => atv cl i.toInt32) := by
  obtain ⟨A, S, n, H⟩ := T
  refine ⟨cl, A, S, n, fun i hi => ?_⟩
  have e : i.toInt32.toInt = i := len_toInt (Nat.lt_trans hi q)
  have e2 : i.toInt32.toNatClampNeg = i := by
    show i.toInt32.toInt.toNat = i
    rw [e]; rfl
  have k := H i.toInt32 (by
    rw [e2, Int32.lt_iff_toInt_lt, e, show (0 : Int32).toInt = 0 from rfl]
    omega)
  rw [e2] at k
  exact k
theorem own_len {t : Term} {n : Int32} {args : Array Value} {s : State} {a : Addr} {cl : Cell} (ht : t.eval args s none [] s = some (.ref a)) (hat : s.arrayAt? a = some cl) (h : (Cond.eq (Term.length t) (.int n)).value args s none s [] = some true) : cl.slots.size < 2 ^ 31 ∧ cl.slots.size.toInt32 = n := by
  have k := own_eqint h
  by_cases q : cl.slots.size < 2 ^ 31
  · rw [len_f ht hat q] at k
    exact ⟨q, Value.int.inj (Option.some.inj k)⟩
  · simp [Term.eval, ht, hat, q] at k

theorem pn_0 : plainName "com/example/inline_monitor/inlinemonitor/model/Guard$Relation" = true := by first | (simp [plainName, overriddenIn]; done) | decide +kernel
theorem d1_0 : decode prog_35_method_4_code 0 = .ok (.aload_n 0, 1) := by decide +kernel
theorem d1_1 : decode prog_35_method_4_code 1 = .ok (.getfield 41, 3) := by decide +kernel
theorem d1_4 : decode prog_35_method_4_code 4 = .ok (.areturn, 1) := by decide +kernel
theorem ef_1 (m : MethodId) (x0 : Addr) : entryFrame m #[(.ref x0)] 1 = mkF m 0 #[.val (.ref x0)] [] := by first | (simp [entryFrame, mkF, argsToLocals, Value.category]; done) | rfl
def Q1 (Z : State) (a1 : Addr) (w_symbol_a1 : Addr) (h0 : Heap) (n0 : Nat) (v : Option Value) (h : Heap) (L : List Loc) : Prop := v = some (.ref w_symbol_a1) ∧ Fr n0 L ∧ h = h0
set_option maxRecDepth 65536 in
set_option maxHeartbeats 40000000 in
theorem rm1 (l : Launch) (Z : State) (a0 : Array Value) (hw : ∀ d ∈ tables_1, d.before a0 Z = true) (ws : List Jvm.Cond) (a1 : Addr) (w_symbol_a1 : Addr) (h0 : Heap) (n0 : Nat) (Z0 : n0 ≤ h0.size) (F_symbol_a1 : Fld Z h0 a1 "com/example/inline_monitor/inlinemonitor/model/Guard$Relation" "symbol" "Ljava/lang/String;" (.ref w_symbol_a1)) :
    MetFree l (⟨"com/example/inline_monitor/inlinemonitor/model/Guard$Relation", "symbol", "()Ljava/lang/String;"⟩ : MethodName) (head1 (Jvm.Cond.code (⟨"com/example/inline_monitor/inlinemonitor/model/Guard$Relation", "symbol", "()Ljava/lang/String;"⟩ : MethodName) prog_35_method_4_code 1 (some (.object "java/lang/String")) :: ws) ({ frames := 0, cells := 0, slots := 0, locals := 0 } : Room)) (fun a U => a = #[(.ref a1)] ∧ Z.Warmed39 U.vm ∧ U.heap = h0) (fun _ _ _ _ _ => True) (fun _ U o U' => ∃ v L, o = .returned v ∧ Q1 Z a1 w_symbol_a1 h0 n0 v U'.heap L ∧ FrameEnd U o U' L ({ frames := 0, cells := 0, slots := 0, locals := 0 } : Room).cells ({ frames := 0, cells := 0, slots := 0, locals := 0 } : Room).slots) := by
  refine MetFree.of_bodySF (plainFor_of_name pn_0) hisR ?_
  intro p e s m args below meth c s₁ Bd hml0 hP hK
  obtain ⟨rfl, hZ, hh⟩ := hP
  have hx := Bd.exec
  have hby := Bd.bytes
  have hml : c.maxLocals = 1 := hml0
  have hown : s.vm.findClass "com/example/inline_monitor/inlinemonitor/model/Guard$Relation" = some m.cls := findClass_of_methodNamed Bd.named
  have hnm := (name_of_methodNamed Bd.named Bd.method).1
  have X0 : Stand p l e ({ frames := 0, cells := 0, slots := 0, locals := 0 } : Room) s m #[(.ref a1)] below meth c s₁ [] 0 0 := Stand.of_body Bd
  have e0 : s₁.heap = h0 := by rw [← hh, Bd.state]; rfl
  have N0 := Fr.nil n0
  have pre0 : ∀ t, Steps p.tables e below (s₁.setTop (mkF m 0 #[.val (.ref a1)] [])) t → Steps p.tables e below (s₁.setTop (entryFrame m #[(.ref a1)] 1)) t := fun t k => castTop (ef_1 m a1) k
  obtain ⟨T2, X2, e2, st2⟩ := getF X0 hx hZ hown (host := "") (Or.inl (hw _ (List.mem_of_getElem? (i := 9) rfl))) Via.refl e0 F_symbol_a1 (g := (mkF m 1 #[.val (.ref a1)] [(.ref a1)])) rfl rfl (hb hby d1_1)
  obtain ⟨fs, hr, hrun, hended, hW, hsame⟩ := X2.leave (v := some (.ref w_symbol_a1)) (fun h => by rw [Bd.returns] at h; cases h)
  refine ⟨_, _, pre0 _ ?_, hrun, hended, _, _, rfl, ?_, ⟨_, rfl⟩, hW, hsame.mono (by decide) (by decide)⟩
  · show Steps p.tables e below (s₁.setTop (mkF m 0 #[.val (.ref a1)] [])) _
    refine XS.aloadN X0.here hx rfl (hb hby d1_0) rfl rfl ?_
    show Steps p.tables e below (s₁.setTop (mkF m 1 #[.val (.ref a1)] [(.ref a1)])) _
    refine st2 _ ?_
    show Steps p.tables e below (T2.setTop (mkF m 4 #[.val (.ref a1)] [(.ref w_symbol_a1)])) _
    jvm_step X2.here [X2.here.top, hx, (hb hby d1_4), X2.method', Bd.returns, Value.isRef, FieldType.isReference]
    first | (intro acts; rw [hr _ acts rfl rfl rfl]) | rw [hr _ _ rfl rfl rfl]
    exact Steps.refl _
  · show Q1 Z a1 w_symbol_a1 h0 n0 _ T2.heap _
    rw [e2]
    exact ⟨rfl, N0, rfl⟩
theorem pn_1 : plainName "java/lang/String" = true := by first | (simp [plainName, overriddenIn]; done) | decide +kernel
theorem d3_0 : decode jdk_42_method_154_code 0 = .ok (.getstatic 38, 3) := by decide +kernel
theorem d3_3 : decode jdk_42_method_154_code 3 = .ok (.ifCond .eq 14, 3) := by decide +kernel
theorem d3_6 : decode jdk_42_method_154_code 6 = .ok (.aload_n 0, 1) := by decide +kernel
theorem d3_7 : decode jdk_42_method_154_code 7 = .ok (.getfield 15, 3) := by decide +kernel
theorem d3_10 : decode jdk_42_method_154_code 10 = .ok (.ifCond .ne 7, 3) := by decide +kernel
theorem d3_13 : decode jdk_42_method_154_code 13 = .ok (.iconst 1, 1) := by decide +kernel
theorem d3_14 : decode jdk_42_method_154_code 14 = .ok (.goto 4, 3) := by decide +kernel
theorem d3_17 : decode jdk_42_method_154_code 17 = .ok (.iconst 0, 1) := by decide +kernel
theorem d3_18 : decode jdk_42_method_154_code 18 = .ok (.ireturn, 1) := by decide +kernel
theorem ef_3 (m : MethodId) (x0 : Addr) : entryFrame m #[(.ref x0)] 1 = mkF m 0 #[.val (.ref x0)] [] := by first | (simp [entryFrame, mkF, argsToLocals, Value.category]; done) | rfl
def f3 (a1 : Addr) (w_CS : Int32) (w_coder_a1 : Int32) : Int32 := (if w_CS = (0 : Int32) then (0 : Int32) else (if w_coder_a1 = (0 : Int32) then (1 : Int32) else (0 : Int32)))
def Q3 (Z : State) (a1 : Addr) (w_CS : Int32) (w_coder_a1 : Int32) (h0 : Heap) (n0 : Nat) (v : Option Value) (h : Heap) (L : List Loc) : Prop := v = some (.int (f3 a1 w_CS w_coder_a1)) ∧ Fr n0 L ∧ h = h0
set_option maxRecDepth 65536 in
set_option maxHeartbeats 40000000 in
theorem rm3 (l : Launch) (Z : State) (a0 : Array Value) (hw : ∀ d ∈ tables_1, d.before a0 Z = true) (ws : List Jvm.Cond) (a1 : Addr) (w_CS : Int32) (w_coder_a1 : Int32) (h0 : Heap) (n0 : Nat) (Z0 : n0 ≤ h0.size) (S_COMPACT_STRINGS : Sta Z h0 "java/lang/String" "COMPACT_STRINGS" "Z" (.int w_CS)) (F_coder_a1 : Fld Z h0 a1 "java/lang/String" "coder" "B" (.int w_coder_a1)) :
    MetFree l (⟨"java/lang/String", "isLatin1", "()Z"⟩ : MethodName) (head1 (Jvm.Cond.code (⟨"java/lang/String", "isLatin1", "()Z"⟩ : MethodName) jdk_42_method_154_code 1 (some .boolean) :: ws) ({ frames := 0, cells := 0, slots := 0, locals := 0 } : Room)) (fun a U => a = #[(.ref a1)] ∧ Z.Warmed39 U.vm ∧ U.heap = h0) (fun _ _ _ _ _ => True) (fun _ U o U' => ∃ v L, o = .returned v ∧ Q3 Z a1 w_CS w_coder_a1 h0 n0 v U'.heap L ∧ FrameEnd U o U' L ({ frames := 0, cells := 0, slots := 0, locals := 0 } : Room).cells ({ frames := 0, cells := 0, slots := 0, locals := 0 } : Room).slots) := by
  refine MetFree.of_bodySF (plainFor_of_name pn_1) hisR ?_
  intro p e s m args below meth c s₁ Bd hml0 hP hK
  obtain ⟨rfl, hZ, hh⟩ := hP
  have hx := Bd.exec
  have hby := Bd.bytes
  have hml : c.maxLocals = 1 := hml0
  have hown : s.vm.findClass "java/lang/String" = some m.cls := findClass_of_methodNamed Bd.named
  have hnm := (name_of_methodNamed Bd.named Bd.method).1
  have X0 : Stand p l e ({ frames := 0, cells := 0, slots := 0, locals := 0 } : Room) s m #[(.ref a1)] below meth c s₁ [] 0 0 := Stand.of_body Bd
  have e0 : s₁.heap = h0 := by rw [← hh, Bd.state]; rfl
  have N0 := Fr.nil n0
  have pre0 : ∀ t, Steps p.tables e below (s₁.setTop (mkF m 0 #[.val (.ref a1)] [])) t → Steps p.tables e below (s₁.setTop (entryFrame m #[(.ref a1)] 1)) t := fun t k => castTop (ef_3 m a1) k
  obtain ⟨T2, X2, e2, st2⟩ := getS2 X0 hx hZ hown (host := "") (Or.inl (hw _ (List.mem_of_getElem? (i := 22) rfl))) Via.refl e0 S_COMPACT_STRINGS (g := (mkF m 0 #[.val (.ref a1)] [])) rfl (hb hby d3_0)
  have pre1 : ∀ t, Steps p.tables e below (T2.setTop (mkF m 3 #[.val (.ref a1)] [(.int w_CS)])) t → Steps p.tables e below (s₁.setTop (entryFrame m #[(.ref a1)] 1)) t := by
    intro t k
    refine pre0 t ?_
    show Steps p.tables e below (s₁.setTop (mkF m 0 #[.val (.ref a1)] [])) _
    refine st2 _ ?_
    exact k
  by_cases hc3 : w_CS = (0 : Int32)
  · have eq2 : (f3 a1 w_CS w_coder_a1) = (0 : Int32) := by unfold f3; simp only [if_pos hc3]
    obtain ⟨fs, hr, hrun, hended, hW, hsame⟩ := X2.leave (v := some (.int (0 : Int32))) (fun h => by rw [Bd.returns] at h; cases h)
    refine ⟨_, _, pre1 _ ?_, hrun, hended, _, _, rfl, ?_, ⟨_, rfl⟩, hW, hsame.mono (by decide) (by decide)⟩
    · show Steps p.tables e below (T2.setTop (mkF m 3 #[.val (.ref a1)] [(.int w_CS)])) _
      refine XS.ifYes X2.here hx rfl (pc0 := 3) (pc' := 17) rfl (hb hby d3_3) rfl ((if0 _ _).trans (teq hc3).1) (by decide) (by decide) ?_
      show Steps p.tables e below (T2.setTop (mkF m 17 #[.val (.ref a1)] [])) _
      refine XS.iconst X2.here hx rfl (hb hby d3_17) ?_
      show Steps p.tables e below (T2.setTop (mkF m 18 #[.val (.ref a1)] [(.int (0 : Int32))])) _
      exact retN X2 hx (t := .boolean) Bd.returns (by simp) (hb hby d3_18) hr
    · show Q3 Z a1 w_CS w_coder_a1 h0 n0 _ T2.heap _
      rw [e2]
      exact ⟨by rw [eq2], N0, rfl⟩
  · obtain ⟨T3, X3, e3, st3⟩ := getF X2 hx hZ hown (host := "") (Or.inl (hw _ (List.mem_of_getElem? (i := 23) rfl))) Via.refl e2 F_coder_a1 (g := (mkF m 7 #[.val (.ref a1)] [(.ref a1)])) rfl rfl (hb hby d3_7)
    have pre3 : ∀ t, Steps p.tables e below (T3.setTop (mkF m 10 #[.val (.ref a1)] [(.int w_coder_a1)])) t → Steps p.tables e below (s₁.setTop (entryFrame m #[(.ref a1)] 1)) t := by
      intro t k
      refine pre1 t ?_
      show Steps p.tables e below (T2.setTop (mkF m 3 #[.val (.ref a1)] [(.int w_CS)])) _
      refine XS.ifNo X2.here hx rfl (hb hby d3_3) rfl ((if0 _ _).trans (feq hc3).1) ?_
      show Steps p.tables e below (T2.setTop (mkF m 6 #[.val (.ref a1)] [])) _
      refine XS.aloadN X2.here hx rfl (hb hby d3_6) rfl rfl ?_
      show Steps p.tables e below (T2.setTop (mkF m 7 #[.val (.ref a1)] [(.ref a1)])) _
      refine st3 _ ?_
      exact k
    by_cases hc10 : w_coder_a1 = (0 : Int32)
    · have eq4 : (f3 a1 w_CS w_coder_a1) = (1 : Int32) := by unfold f3; simp only [if_neg hc3, if_pos hc10]
      obtain ⟨fs, hr, hrun, hended, hW, hsame⟩ := X3.leave (v := some (.int (1 : Int32))) (fun h => by rw [Bd.returns] at h; cases h)
      refine ⟨_, _, pre3 _ ?_, hrun, hended, _, _, rfl, ?_, ⟨_, rfl⟩, hW, hsame.mono (by decide) (by decide)⟩
      · show Steps p.tables e below (T3.setTop (mkF m 10 #[.val (.ref a1)] [(.int w_coder_a1)])) _
        refine XS.ifNo X3.here hx rfl (hb hby d3_10) rfl ((if0 _ _).trans (teq hc10).2) ?_
        show Steps p.tables e below (T3.setTop (mkF m 13 #[.val (.ref a1)] [])) _
        refine XS.iconst X3.here hx rfl (hb hby d3_13) ?_
        show Steps p.tables e below (T3.setTop (mkF m 14 #[.val (.ref a1)] [(.int (1 : Int32))])) _
        refine XS.goto X3.here hx rfl (pc0 := 14) (pc' := 18) rfl (hb hby d3_14) (by decide) (by decide) ?_
        show Steps p.tables e below (T3.setTop (mkF m 18 #[.val (.ref a1)] [(.int (1 : Int32))])) _
        exact retN X3 hx (t := .boolean) Bd.returns (by simp) (hb hby d3_18) hr
      · show Q3 Z a1 w_CS w_coder_a1 h0 n0 _ T3.heap _
        rw [e3]
        exact ⟨by rw [eq4], N0, rfl⟩
    · have eq5 : (f3 a1 w_CS w_coder_a1) = (0 : Int32) := by unfold f3; simp only [if_neg hc3, if_neg hc10]
      obtain ⟨fs, hr, hrun, hended, hW, hsame⟩ := X3.leave (v := some (.int (0 : Int32))) (fun h => by rw [Bd.returns] at h; cases h)
      refine ⟨_, _, pre3 _ ?_, hrun, hended, _, _, rfl, ?_, ⟨_, rfl⟩, hW, hsame.mono (by decide) (by decide)⟩
      · show Steps p.tables e below (T3.setTop (mkF m 10 #[.val (.ref a1)] [(.int w_coder_a1)])) _
        refine XS.ifYes X3.here hx rfl (pc0 := 10) (pc' := 17) rfl (hb hby d3_10) rfl ((if0 _ _).trans (feq hc10).2) (by decide) (by decide) ?_
        show Steps p.tables e below (T3.setTop (mkF m 17 #[.val (.ref a1)] [])) _
        refine XS.iconst X3.here hx rfl (hb hby d3_17) ?_
        show Steps p.tables e below (T3.setTop (mkF m 18 #[.val (.ref a1)] [(.int (0 : Int32))])) _
        exact retN X3 hx (t := .boolean) Bd.returns (by simp) (hb hby d3_18) hr
      · show Q3 Z a1 w_CS w_coder_a1 h0 n0 _ T3.heap _
        rw [e3]
        exact ⟨by rw [eq5], N0, rfl⟩
theorem pn_2 : plainName "jdk/internal/util/Preconditions" = true := by first | (simp [plainName, overriddenIn]; done) | decide +kernel
theorem d6_0 : decode jdk_41_method_11_code 0 = .ok (.iload_n 0, 1) := by decide +kernel
theorem d6_1 : decode jdk_41_method_11_code 1 = .ok (.ifCond .lt 8, 3) := by decide +kernel
theorem d6_4 : decode jdk_41_method_11_code 4 = .ok (.iload_n 0, 1) := by decide +kernel
theorem d6_5 : decode jdk_41_method_11_code 5 = .ok (.iload_n 1, 1) := by decide +kernel
theorem d6_6 : decode jdk_41_method_11_code 6 = .ok (.if_icmp .lt 10, 3) := by decide +kernel
theorem d6_16 : decode jdk_41_method_11_code 16 = .ok (.iload_n 0, 1) := by decide +kernel
theorem d6_17 : decode jdk_41_method_11_code 17 = .ok (.ireturn, 1) := by decide +kernel
theorem ef_6 (m : MethodId) (x0 : Int32) (x1 : Int32) (x2 : Value) (hc2 : x2.category = 1) : entryFrame m #[(.int x0), (.int x1), x2] 3 = mkF m 0 #[.val (.int x0), .val (.int x1), .val x2] [] := by cases x2 <;> simp [Value.category] at hc2 <;> first | (simp [entryFrame, mkF, argsToLocals, Value.category]; done) | rfl
def f6 (p1 : Int32) (p2 : Int32) : Int32 := p1
def Q6 (Z : State) (p1 : Int32) (p2 : Int32) (u3 : Value) (h0 : Heap) (n0 : Nat) (v : Option Value) (h : Heap) (L : List Loc) : Prop := v = some (.int (f6 p1 p2)) ∧ Fr n0 L ∧ h = h0
set_option maxRecDepth 65536 in
set_option maxHeartbeats 40000000 in
theorem rm6 (l : Launch) (Z : State) (a0 : Array Value) (hw : ∀ d ∈ tables_1, d.before a0 Z = true) (ws : List Jvm.Cond) (p1 : Int32) (p2 : Int32) (u3 : Value) (h0 : Heap) (n0 : Nat) (Z0 : n0 ≤ h0.size) (hcat : u3.category = 1) (hin : ¬ p1 < 0 ∧ p1 < p2) :
    MetFree l (⟨"jdk/internal/util/Preconditions", "checkIndex", "(IILjava/util/function/BiFunction;)I"⟩ : MethodName) (head1 (Jvm.Cond.code (⟨"jdk/internal/util/Preconditions", "checkIndex", "(IILjava/util/function/BiFunction;)I"⟩ : MethodName) jdk_41_method_11_code 3 (some .int) :: ws) ({ frames := 0, cells := 0, slots := 0, locals := 0 } : Room)) (fun a U => a = #[(.int p1), (.int p2), u3] ∧ Z.Warmed39 U.vm ∧ U.heap = h0) (fun _ _ _ _ _ => True) (fun _ U o U' => ∃ v L, o = .returned v ∧ Q6 Z p1 p2 u3 h0 n0 v U'.heap L ∧ FrameEnd U o U' L ({ frames := 0, cells := 0, slots := 0, locals := 0 } : Room).cells ({ frames := 0, cells := 0, slots := 0, locals := 0 } : Room).slots) := by
  refine MetFree.of_bodySF (plainFor_of_name pn_2) hisR ?_
  intro p e s m args below meth c s₁ Bd hml0 hP hK
  obtain ⟨rfl, hZ, hh⟩ := hP
  have hx := Bd.exec
  have hby := Bd.bytes
  have hml : c.maxLocals = 3 := hml0
  have hown : s.vm.findClass "jdk/internal/util/Preconditions" = some m.cls := findClass_of_methodNamed Bd.named
  have hnm := (name_of_methodNamed Bd.named Bd.method).1
  have X0 : Stand p l e ({ frames := 0, cells := 0, slots := 0, locals := 0 } : Room) s m #[(.int p1), (.int p2), u3] below meth c s₁ [] 0 0 := Stand.of_body Bd
  have e0 : s₁.heap = h0 := by rw [← hh, Bd.state]; rfl
  have N0 := Fr.nil n0
  have pre0 : ∀ t, Steps p.tables e below (s₁.setTop (mkF m 0 #[.val (.int p1), .val (.int p2), .val u3] [])) t → Steps p.tables e below (s₁.setTop (entryFrame m #[(.int p1), (.int p2), u3] 3)) t := fun t k => castTop (ef_6 m p1 p2 u3 hcat) k
  have eq1 : (f6 p1 p2) = p1 := rfl
  obtain ⟨fs, hr, hrun, hended, hW, hsame⟩ := X0.leave (v := some (.int p1)) (fun h => by rw [Bd.returns] at h; cases h)
  refine ⟨_, _, pre0 _ ?_, hrun, hended, _, _, rfl, ?_, ⟨_, rfl⟩, hW, hsame.mono (by decide) (by decide)⟩
  · show Steps p.tables e below (s₁.setTop (mkF m 0 #[.val (.int p1), .val (.int p2), .val u3] [])) _
    refine XS.iloadN X0.here hx rfl (hb hby d6_0) rfl ?_
    show Steps p.tables e below (s₁.setTop (mkF m 1 #[.val (.int p1), .val (.int p2), .val u3] [(.int p1)])) _
    refine XS.ifNo X0.here hx rfl (hb hby d6_1) rfl ((if0 _ _).trans (flt (hin.1 : ¬ (p1 < (0 : Int32)))).1) ?_
    show Steps p.tables e below (s₁.setTop (mkF m 4 #[.val (.int p1), .val (.int p2), .val u3] [])) _
    refine XS.iloadN X0.here hx rfl (hb hby d6_4) rfl ?_
    show Steps p.tables e below (s₁.setTop (mkF m 5 #[.val (.int p1), .val (.int p2), .val u3] [(.int p1)])) _
    refine XS.iloadN X0.here hx rfl (hb hby d6_5) rfl ?_
    show Steps p.tables e below (s₁.setTop (mkF m 6 #[.val (.int p1), .val (.int p2), .val u3] [(.int p2), (.int p1)])) _
    refine XS.icmpYes X0.here hx rfl (pc0 := 6) (pc' := 16) rfl (hb hby d6_6) rfl (tlt (hin.2 : p1 < p2)).1 (by decide) (by decide) ?_
    show Steps p.tables e below (s₁.setTop (mkF m 16 #[.val (.int p1), .val (.int p2), .val u3] [])) _
    refine XS.iloadN X0.here hx rfl (hb hby d6_16) rfl ?_
    show Steps p.tables e below (s₁.setTop (mkF m 17 #[.val (.int p1), .val (.int p2), .val u3] [(.int p1)])) _
    exact retI X0 hx Bd.returns (hb hby d6_17) hr
  · show Q6 Z p1 p2 u3 h0 n0 _ s₁.heap _
    rw [e0]
    exact ⟨by rw [eq1], N0, rfl⟩
theorem pd_0 : parseMethodDescriptor "(IILjava/util/function/BiFunction;)I" = some ⟨[.int, .int, (.object "java/util/function/BiFunction")], some .int⟩ := by decide +kernel
theorem d5_0 : decode jdk_42_method_155_code 0 = .ok (.iload_n 0, 1) := by decide +kernel
theorem d5_1 : decode jdk_42_method_155_code 1 = .ok (.iload_n 1, 1) := by decide +kernel
theorem d5_2 : decode jdk_42_method_155_code 2 = .ok (.getstatic 1053, 3) := by decide +kernel
theorem d5_5 : decode jdk_42_method_155_code 5 = .ok (.invokestatic 1059, 3) := by decide +kernel
theorem d5_8 : decode jdk_42_method_155_code 8 = .ok (.pop, 1) := by decide +kernel
theorem d5_9 : decode jdk_42_method_155_code 9 = .ok (.return_, 1) := by decide +kernel
theorem ef_5 (m : MethodId) (x0 : Int32) (x1 : Int32) : entryFrame m #[(.int x0), (.int x1)] 2 = mkF m 0 #[.val (.int x0), .val (.int x1)] [] := by first | (simp [entryFrame, mkF, argsToLocals, Value.category]; done) | rfl
def Q5 (Z : State) (p1 : Int32) (p2 : Int32) (w_SIO : Value) (h0 : Heap) (n0 : Nat) (v : Option Value) (h : Heap) (L : List Loc) : Prop := v = none ∧ Fr n0 L ∧ h = h0
set_option maxRecDepth 65536 in
set_option maxHeartbeats 40000000 in
theorem rm5 (l : Launch) (Z : State) (a0 : Array Value) (hw : ∀ d ∈ tables_1, d.before a0 Z = true) (ws : List Jvm.Cond) (p1 : Int32) (p2 : Int32) (w_SIO : Value) (h0 : Heap) (n0 : Nat) (Z0 : n0 ≤ h0.size) (S_SIOOBE_FORMATTER : Sta Z h0 "jdk/internal/util/Preconditions" "SIOOBE_FORMATTER" "Ljava/util/function/BiFunction;" w_SIO) (hcat : w_SIO.category = 1) (hin : ¬ p1 < 0 ∧ p1 < p2) :
    MetFree l (⟨"java/lang/String", "checkIndex", "(II)V"⟩ : MethodName) (head1 (Jvm.Cond.code (⟨"java/lang/String", "checkIndex", "(II)V"⟩ : MethodName) jdk_42_method_155_code 2 none :: ws) ({ frames := 1, cells := 0, slots := 0, locals := 14 } : Room)) (fun a U => a = #[(.int p1), (.int p2)] ∧ Z.Warmed39 U.vm ∧ U.heap = h0) (fun _ _ _ _ _ => True) (fun _ U o U' => ∃ v L, o = .returned v ∧ Q5 Z p1 p2 w_SIO h0 n0 v U'.heap L ∧ FrameEnd U o U' L ({ frames := 1, cells := 0, slots := 0, locals := 14 } : Room).cells ({ frames := 1, cells := 0, slots := 0, locals := 14 } : Room).slots) := by
  refine MetFree.of_bodySF (plainFor_of_name pn_1) hisR ?_
  intro p e s m args below meth c s₁ Bd hml0 hP hK
  obtain ⟨rfl, hZ, hh⟩ := hP
  have hx := Bd.exec
  have hby := Bd.bytes
  have hml : c.maxLocals = 2 := hml0
  have hown : s.vm.findClass "java/lang/String" = some m.cls := findClass_of_methodNamed Bd.named
  have hnm := (name_of_methodNamed Bd.named Bd.method).1
  have X0 : Stand p l e ({ frames := 1, cells := 0, slots := 0, locals := 14 } : Room) s m #[(.int p1), (.int p2)] below meth c s₁ [] 0 0 := Stand.of_body Bd
  have e0 : s₁.heap = h0 := by rw [← hh, Bd.state]; rfl
  have N0 := Fr.nil n0
  have pre0 : ∀ t, Steps p.tables e below (s₁.setTop (mkF m 0 #[.val (.int p1), .val (.int p2)] [])) t → Steps p.tables e below (s₁.setTop (entryFrame m #[(.int p1), (.int p2)] 2)) t := fun t k => castTop (ef_5 m p1 p2) k
  obtain ⟨T3, X3, e3, st3⟩ := getS2 X0 hx hZ hown (host := "") (Or.inl (hw _ (List.mem_of_getElem? (i := 34) rfl))) Via.refl e0 S_SIOOBE_FORMATTER (g := (mkF m 2 #[.val (.int p1), .val (.int p2)] [(.int p2), (.int p1)])) rfl (hb hby d5_2)
  obtain ⟨_, _, ⟨T4, L4, k4, n4⟩, -, X4, ⟨Lc4, hQ4, l4, y4, z4⟩, st4⟩ := Jvm.LawKit.callS X3 hx (y := (⟨"jdk/internal/util/Preconditions", "checkIndex", "(IILjava/util/function/BiFunction;)I"⟩ : MethodName)) hown (mvT hZ (hw _ (List.mem_of_getElem? (i := 36) rfl))) (mvT hZ (hw _ (List.mem_of_getElem? (i := 37) rfl))) (mvT hZ (hw _ (List.mem_of_getElem? (i := 35) rfl))) (mvT hZ (hw _ (List.mem_of_getElem? (i := 38) rfl))) (by decide) (backOf (W := 0) (rm6 l Z a0 hw [] p1 p2 w_SIO h0 n0 Z0 hcat hin) hZ (hw _ (List.mem_of_getElem? (i := 38) rfl)) (hw _ (List.mem_of_getElem? (i := 35) rfl)) (by decide) (by decide)) (g := (mkF m 5 #[.val (.int p1), .val (.int p2)] [w_SIO, (.int p2), (.int p1)])) rfl (by rw [hml]; rfl) (argsL := [(.int p1), (.int p2), w_SIO]) (rest := []) (lenOf pd_0 rfl) rfl (by show 2 * 0 + _ ≤ _; exact Nat.le_of_eq rfl) (hb hby d5_5) (fun _ _ => ⟨rfl, e3, (by decide : 0 + 0 ≤ _), (by decide : 0 + 0 ≤ _)⟩)
  dsimp only [Pt.U, Pt.locs, Pt.cells, Pt.slots] at X4 l4 y4 z4 st4 hQ4
  subst l4 y4 z4
  obtain ⟨rfl, N4q, e4⟩ := hQ4
  have N4 := Fr.app N0 N4q
  obtain ⟨fs, hr, hrun, hended, hW, hsame⟩ := X4.leave (v := none) (fun _ => rfl)
  refine ⟨_, _, pre0 _ ?_, hrun, hended, _, _, rfl, ?_, ⟨_, rfl⟩, hW, hsame.mono (by decide) (by decide)⟩
  · show Steps p.tables e below (s₁.setTop (mkF m 0 #[.val (.int p1), .val (.int p2)] [])) _
    refine XS.iloadN X0.here hx rfl (hb hby d5_0) rfl ?_
    show Steps p.tables e below (s₁.setTop (mkF m 1 #[.val (.int p1), .val (.int p2)] [(.int p1)])) _
    refine XS.iloadN X0.here hx rfl (hb hby d5_1) rfl ?_
    show Steps p.tables e below (s₁.setTop (mkF m 2 #[.val (.int p1), .val (.int p2)] [(.int p2), (.int p1)])) _
    refine st3 _ ?_
    show Steps p.tables e below (T3.setTop (mkF m 5 #[.val (.int p1), .val (.int p2)] [w_SIO, (.int p2), (.int p1)])) _
    refine st4 _ ?_
    show Steps p.tables e below (T4.setTop (mkF m 8 #[.val (.int p1), .val (.int p2)] [(.int (f6 p1 p2))])) _
    refine XS.pop X4.here hx rfl (hb hby d5_8) rfl rfl ?_
    show Steps p.tables e below (T4.setTop (mkF m 9 #[.val (.int p1), .val (.int p2)] [])) _
    exact X4.returnOut hx Bd.returns (hb hby d5_9) hr
  · show Q5 Z p1 p2 w_SIO h0 n0 _ T4.heap _
    rw [e4]
    exact ⟨rfl, N4, rfl⟩
theorem pd_1 : parseMethodDescriptor "(II)V" = some ⟨[.int, .int], none⟩ := by decide +kernel
theorem pn_3 : plainName "java/lang/StringLatin1" = true := by first | (simp [plainName, overriddenIn]; done) | decide +kernel
theorem d4_0 : decode jdk_43_method_2_code 0 = .ok (.iload_n 1, 1) := by decide +kernel
theorem d4_1 : decode jdk_43_method_2_code 1 = .ok (.aload_n 0, 1) := by decide +kernel
theorem d4_2 : decode jdk_43_method_2_code 2 = .ok (.arraylength, 1) := by decide +kernel
theorem d4_3 : decode jdk_43_method_2_code 3 = .ok (.invokestatic 9, 3) := by decide +kernel
theorem d4_6 : decode jdk_43_method_2_code 6 = .ok (.aload_n 0, 1) := by decide +kernel
theorem d4_7 : decode jdk_43_method_2_code 7 = .ok (.iload_n 1, 1) := by decide +kernel
theorem d4_8 : decode jdk_43_method_2_code 8 = .ok (.baload, 1) := by decide +kernel
theorem d4_9 : decode jdk_43_method_2_code 9 = .ok (.sipush 255, 3) := by decide +kernel
theorem d4_12 : decode jdk_43_method_2_code 12 = .ok (.iand, 1) := by decide +kernel
theorem d4_13 : decode jdk_43_method_2_code 13 = .ok (.i2c, 1) := by decide +kernel
theorem d4_14 : decode jdk_43_method_2_code 14 = .ok (.ireturn, 1) := by decide +kernel
theorem ef_4 (m : MethodId) (x0 : Addr) (x1 : Int32) : entryFrame m #[(.ref x0), (.int x1)] 2 = mkF m 0 #[.val (.ref x0), .val (.int x1)] [] := by first | (simp [entryFrame, mkF, argsToLocals, Value.category]; done) | rfl
def f4 (a1 : Addr) (p2 : Int32) (z_a1 : Int32) (c_a1 : Nat → Int32) : Int32 := (nar .char (((c_a1 (p2).toNatClampNeg) &&& (255 : Int32)).toUInt32.toUInt16.toUInt32.toInt32))
def Q4 (Z : State) (a1 : Addr) (p2 : Int32) (z_a1 : Int32) (c_a1 : Nat → Int32) (w_SIO : Value) (h0 : Heap) (n0 : Nat) (v : Option Value) (h : Heap) (L : List Loc) : Prop := v = some (.int (f4 a1 p2 z_a1 c_a1)) ∧ Fr n0 L ∧ h = h0
set_option maxRecDepth 65536 in
set_option maxHeartbeats 40000000 in
theorem rm4 (l : Launch) (Z : State) (a0 : Array Value) (hw : ∀ d ∈ tables_1, d.before a0 Z = true) (ws : List Jvm.Cond) (a1 : Addr) (p2 : Int32) (z_a1 : Int32) (c_a1 : Nat → Int32) (w_SIO : Value) (h0 : Heap) (n0 : Nat) (Z0 : n0 ≤ h0.size) (V_a1 : IAr Z h0 a1 .byte z_a1 c_a1) (S_SIOOBE_FORMATTER : Sta Z h0 "jdk/internal/util/Preconditions" "SIOOBE_FORMATTER" "Ljava/util/function/BiFunction;" w_SIO) (hcat : w_SIO.category = 1) (hin : ¬ p2 < 0 ∧ p2 < z_a1) :
    MetFree l (⟨"java/lang/StringLatin1", "charAt", "([BI)C"⟩ : MethodName) (head1 (Jvm.Cond.code (⟨"java/lang/StringLatin1", "charAt", "([BI)C"⟩ : MethodName) jdk_43_method_2_code 2 (some .char) :: ws) ({ frames := 2, cells := 0, slots := 0, locals := 27 } : Room)) (fun a U => a = #[(.ref a1), (.int p2)] ∧ Z.Warmed39 U.vm ∧ U.heap = h0) (fun _ _ _ _ _ => True) (fun _ U o U' => ∃ v L, o = .returned v ∧ Q4 Z a1 p2 z_a1 c_a1 w_SIO h0 n0 v U'.heap L ∧ FrameEnd U o U' L ({ frames := 2, cells := 0, slots := 0, locals := 27 } : Room).cells ({ frames := 2, cells := 0, slots := 0, locals := 27 } : Room).slots) := by
  refine MetFree.of_bodySF (plainFor_of_name pn_3) hisR ?_
  intro p e s m args below meth c s₁ Bd hml0 hP hK
  obtain ⟨rfl, hZ, hh⟩ := hP
  have hx := Bd.exec
  have hby := Bd.bytes
  have hml : c.maxLocals = 2 := hml0
  have hown : s.vm.findClass "java/lang/StringLatin1" = some m.cls := findClass_of_methodNamed Bd.named
  have hnm := (name_of_methodNamed Bd.named Bd.method).1
  have X0 : Stand p l e ({ frames := 2, cells := 0, slots := 0, locals := 27 } : Room) s m #[(.ref a1), (.int p2)] below meth c s₁ [] 0 0 := Stand.of_body Bd
  have e0 : s₁.heap = h0 := by rw [← hh, Bd.state]; rfl
  have N0 := Fr.nil n0
  have pre0 : ∀ t, Steps p.tables e below (s₁.setTop (mkF m 0 #[.val (.ref a1), .val (.int p2)] [])) t → Steps p.tables e below (s₁.setTop (entryFrame m #[(.ref a1), (.int p2)] 2)) t := fun t k => castTop (ef_4 m a1 p2) k
  obtain ⟨_, _, ⟨T3, L3, k3, n3⟩, -, X3, ⟨Lc3, hQ3, l3, y3, z3⟩, st3⟩ := Jvm.LawKit.callS X0 hx (y := (⟨"java/lang/String", "checkIndex", "(II)V"⟩ : MethodName)) hown (mvT hZ (hw _ (List.mem_of_getElem? (i := 31) rfl))) (mvT hZ (hw _ (List.mem_of_getElem? (i := 32) rfl))) (mvT hZ (hw _ (List.mem_of_getElem? (i := 15) rfl))) (mvT hZ (hw _ (List.mem_of_getElem? (i := 33) rfl))) (by decide) (backOf (W := 0) (rm5 l Z a0 hw [] p2 z_a1 w_SIO h0 n0 Z0 S_SIOOBE_FORMATTER hcat hin) hZ (hw _ (List.mem_of_getElem? (i := 33) rfl)) (hw _ (List.mem_of_getElem? (i := 15) rfl)) (by decide) (by decide)) (g := (mkF m 3 #[.val (.ref a1), .val (.int p2)] [(.int z_a1), (.int p2)])) rfl (by rw [hml]; rfl) (argsL := [(.int p2), (.int z_a1)]) (rest := []) (lenOf pd_1 rfl) rfl (by show 2 * 0 + _ ≤ _; exact Nat.le_of_eq rfl) (hb hby d4_3) (fun _ _ => ⟨rfl, e0, (by decide : 0 + 0 ≤ _), (by decide : 0 + 0 ≤ _)⟩)
  dsimp only [Pt.U, Pt.locs, Pt.cells, Pt.slots] at X3 l3 y3 z3 st3 hQ3
  subst l3 y3 z3
  obtain ⟨rfl, N3q, e3⟩ := hQ3
  have N3 := Fr.app N0 N3q
  have eq1 : (f4 a1 p2 z_a1 c_a1) = (nar .char (((c_a1 (p2).toNatClampNeg) &&& (255 : Int32)).toUInt32.toUInt16.toUInt32.toInt32)) := rfl
  obtain ⟨fs, hr, hrun, hended, hW, hsame⟩ := X3.leave (v := some (.int (nar .char (((c_a1 (p2).toNatClampNeg) &&& (255 : Int32)).toUInt32.toUInt16.toUInt32.toInt32)))) (fun h => by rw [Bd.returns] at h; cases h)
  refine ⟨_, _, pre0 _ ?_, hrun, hended, _, _, rfl, ?_, ⟨_, rfl⟩, hW, hsame.mono (by decide) (by decide)⟩
  · show Steps p.tables e below (s₁.setTop (mkF m 0 #[.val (.ref a1), .val (.int p2)] [])) _
    refine XS.iloadN X0.here hx rfl (hb hby d4_0) rfl ?_
    show Steps p.tables e below (s₁.setTop (mkF m 1 #[.val (.ref a1), .val (.int p2)] [(.int p2)])) _
    refine XS.aloadN X0.here hx rfl (hb hby d4_1) rfl rfl ?_
    show Steps p.tables e below (s₁.setTop (mkF m 2 #[.val (.ref a1), .val (.int p2)] [(.ref a1), (.int p2)])) _
    refine alen X0 hx hZ e0 V_a1 (g := (mkF m 2 #[.val (.ref a1), .val (.int p2)] [(.ref a1), (.int p2)])) rfl rfl (hb hby d4_2) ?_
    show Steps p.tables e below (s₁.setTop (mkF m 3 #[.val (.ref a1), .val (.int p2)] [(.int z_a1), (.int p2)])) _
    refine st3 _ ?_
    show Steps p.tables e below (T3.setTop (mkF m 6 #[.val (.ref a1), .val (.int p2)] [])) _
    refine XS.aloadN X3.here hx rfl (hb hby d4_6) rfl rfl ?_
    show Steps p.tables e below (T3.setTop (mkF m 7 #[.val (.ref a1), .val (.int p2)] [(.ref a1)])) _
    refine XS.iloadN X3.here hx rfl (hb hby d4_7) rfl ?_
    show Steps p.tables e below (T3.setTop (mkF m 8 #[.val (.ref a1), .val (.int p2)] [(.int p2), (.ref a1)])) _
    refine ldB X3 hx hZ e3 V_a1 (j := p2) hin (g := (mkF m 8 #[.val (.ref a1), .val (.int p2)] [(.int p2), (.ref a1)])) rfl rfl (hb hby d4_8) ?_
    show Steps p.tables e below (T3.setTop (mkF m 9 #[.val (.ref a1), .val (.int p2)] [(.int (c_a1 (p2).toNatClampNeg))])) _
    refine XS.sipush X3.here hx rfl (hb hby d4_9) ?_
    show Steps p.tables e below (T3.setTop (mkF m 12 #[.val (.ref a1), .val (.int p2)] [(.int (255 : Int32)), (.int (c_a1 (p2).toNatClampNeg))])) _
    refine XS.iand X3.here hx rfl (hb hby d4_12) rfl ?_
    show Steps p.tables e below (T3.setTop (mkF m 13 #[.val (.ref a1), .val (.int p2)] [(.int ((c_a1 (p2).toNatClampNeg) &&& (255 : Int32)))])) _
    refine XS.i2c X3.here hx rfl (hb hby d4_13) rfl ?_
    show Steps p.tables e below (T3.setTop (mkF m 14 #[.val (.ref a1), .val (.int p2)] [(.int (((c_a1 (p2).toNatClampNeg) &&& (255 : Int32)).toUInt32.toUInt16.toUInt32.toInt32))])) _
    exact retN X3 hx (t := .char) Bd.returns (by simp) (hb hby d4_14) hr
  · show Q4 Z a1 p2 z_a1 c_a1 w_SIO h0 n0 _ T3.heap _
    rw [e3]
    exact ⟨by rw [eq1], N3, rfl⟩
theorem pd_2 : parseMethodDescriptor "()Z" = some ⟨[], some .boolean⟩ := by decide +kernel
theorem pd_3 : parseMethodDescriptor "([BI)C" = some ⟨[(.array .byte), .int], some .char⟩ := by decide +kernel
theorem d2_0 : decode jdk_42_method_56_code 0 = .ok (.aload_n 0, 1) := by decide +kernel
theorem d2_1 : decode jdk_42_method_56_code 1 = .ok (.invokevirtual 492, 3) := by decide +kernel
theorem d2_4 : decode jdk_42_method_56_code 4 = .ok (.ifCond .eq 12, 3) := by decide +kernel
theorem d2_7 : decode jdk_42_method_56_code 7 = .ok (.aload_n 0, 1) := by decide +kernel
theorem d2_8 : decode jdk_42_method_56_code 8 = .ok (.getfield 9, 3) := by decide +kernel
theorem d2_11 : decode jdk_42_method_56_code 11 = .ok (.iload_n 1, 1) := by decide +kernel
theorem d2_12 : decode jdk_42_method_56_code 12 = .ok (.invokestatic 495, 3) := by decide +kernel
theorem d2_15 : decode jdk_42_method_56_code 15 = .ok (.ireturn, 1) := by decide +kernel
theorem ef_2 (m : MethodId) (x0 : Addr) (x1 : Int32) : entryFrame m #[(.ref x0), (.int x1)] 2 = mkF m 0 #[.val (.ref x0), .val (.int x1)] [] := by first | (simp [entryFrame, mkF, argsToLocals, Value.category]; done) | rfl
def f2 (a1 : Addr) (p2 : Int32) (w_CS : Int32) (w_coder_a1 : Int32) (w_val : Addr) (z_w_val : Int32) (c_w_val : Nat → Int32) : Int32 := (nar .char (f4 w_val p2 z_w_val c_w_val))
def Q2 (Z : State) (a1 : Addr) (p2 : Int32) (w_CS : Int32) (w_coder_a1 : Int32) (w_val : Addr) (z_w_val : Int32) (c_w_val : Nat → Int32) (w_SIO : Value) (h0 : Heap) (n0 : Nat) (v : Option Value) (h : Heap) (L : List Loc) : Prop := v = some (.int (f2 a1 p2 w_CS w_coder_a1 w_val z_w_val c_w_val)) ∧ Fr n0 L ∧ h = h0
set_option maxRecDepth 65536 in
set_option maxHeartbeats 40000000 in
theorem rm2 (l : Launch) (Z : State) (a0 : Array Value) (hw : ∀ d ∈ tables_1, d.before a0 Z = true) (ws : List Jvm.Cond) (a1 : Addr) (p2 : Int32) (w_CS : Int32) (w_coder_a1 : Int32) (w_val : Addr) (z_w_val : Int32) (c_w_val : Nat → Int32) (w_SIO : Value) (h0 : Heap) (n0 : Nat) (Z0 : n0 ≤ h0.size) (E_a1 : Exa Z h0 a1 "java/lang/String") (S_COMPACT_STRINGS : Sta Z h0 "java/lang/String" "COMPACT_STRINGS" "Z" (.int w_CS)) (hcs : ¬ w_CS = 0) (F_coder_a1 : Fld Z h0 a1 "java/lang/String" "coder" "B" (.int w_coder_a1)) (hcod : w_coder_a1 = 0) (F_value_a1 : Fld Z h0 a1 "java/lang/String" "value" "[B" (.ref w_val)) (V_w_val : IAr Z h0 w_val .byte z_w_val c_w_val) (S_SIOOBE_FORMATTER : Sta Z h0 "jdk/internal/util/Preconditions" "SIOOBE_FORMATTER" "Ljava/util/function/BiFunction;" w_SIO) (hcat : w_SIO.category = 1) (hin : ¬ p2 < 0 ∧ p2 < z_w_val) :
    MetFree l (⟨"java/lang/String", "charAt", "(I)C"⟩ : MethodName) (head1 (Jvm.Cond.code (⟨"java/lang/String", "charAt", "(I)C"⟩ : MethodName) jdk_42_method_56_code 2 (some .char) :: ws) ({ frames := 3, cells := 0, slots := 0, locals := 40 } : Room)) (fun a U => a = #[(.ref a1), (.int p2)] ∧ Z.Warmed39 U.vm ∧ U.heap = h0) (fun _ _ _ _ _ => True) (fun _ U o U' => ∃ v L, o = .returned v ∧ Q2 Z a1 p2 w_CS w_coder_a1 w_val z_w_val c_w_val w_SIO h0 n0 v U'.heap L ∧ FrameEnd U o U' L ({ frames := 3, cells := 0, slots := 0, locals := 40 } : Room).cells ({ frames := 3, cells := 0, slots := 0, locals := 40 } : Room).slots) := by
  refine MetFree.of_bodySF (plainFor_of_name pn_1) hisR ?_
  intro p e s m args below meth c s₁ Bd hml0 hP hK
  obtain ⟨rfl, hZ, hh⟩ := hP
  have hx := Bd.exec
  have hby := Bd.bytes
  have hml : c.maxLocals = 2 := hml0
  have hown : s.vm.findClass "java/lang/String" = some m.cls := findClass_of_methodNamed Bd.named
  have hnm := (name_of_methodNamed Bd.named Bd.method).1
  have X0 : Stand p l e ({ frames := 3, cells := 0, slots := 0, locals := 40 } : Room) s m #[(.ref a1), (.int p2)] below meth c s₁ [] 0 0 := Stand.of_body Bd
  have e0 : s₁.heap = h0 := by rw [← hh, Bd.state]; rfl
  have N0 := Fr.nil n0
  have pre0 : ∀ t, Steps p.tables e below (s₁.setTop (mkF m 0 #[.val (.ref a1), .val (.int p2)] [])) t → Steps p.tables e below (s₁.setTop (entryFrame m #[(.ref a1), (.int p2)] 2)) t := fun t k => castTop (ef_2 m a1 p2) k
  obtain ⟨cq3, kq3, q3a, q3b, q3c⟩ := isOf hZ e0 E_a1
  obtain ⟨_, _, ⟨T3, L3, k3, n3⟩, -, X3, ⟨Lc3, hQ3, l3, y3, z3⟩, st3⟩ := X0.virtualBack hx (y := (⟨"java/lang/String", "isLatin1", "()Z"⟩ : MethodName)) (z := (⟨"java/lang/String", "isLatin1", "()Z"⟩ : MethodName)) hown (mvT hZ (hw _ (List.mem_of_getElem? (i := 17) rfl))) (mvT hZ (hw _ (List.mem_of_getElem? (i := 18) rfl))) (notFace_of_selects (args := #[]) (mvT hZ (hw _ (List.mem_of_getElem? (i := 20) rfl)))) (mvT hZ (hw _ (List.mem_of_getElem? (i := 20) rfl))) (mvT hZ (hw _ (List.mem_of_getElem? (i := 19) rfl))) (by decide) (backOf (W := 0) (rm3 l Z a0 hw [] a1 w_CS w_coder_a1 h0 n0 Z0 S_COMPACT_STRINGS F_coder_a1) hZ (hw _ (List.mem_of_getElem? (i := 21) rfl)) (hw _ (List.mem_of_getElem? (i := 15) rfl)) (by decide) (by decide)) q3a q3c (g := (mkF m 1 #[.val (.ref a1), .val (.int p2)] [(.ref a1)])) rfl (by rw [hml]; rfl) (Steps.refl _) (argsL := []) (rest := []) (lenOf pd_2 rfl) rfl (by show 2 * 0 + _ ≤ _; exact Nat.le_of_eq rfl) (hb hby d2_1) (fun _ _ => ⟨rfl, e0, (by decide : 0 + 0 ≤ _), (by decide : 0 + 0 ≤ _)⟩)
  dsimp only [Pt.U, Pt.locs, Pt.cells, Pt.slots] at X3 l3 y3 z3 st3 hQ3
  subst l3 y3 z3
  obtain ⟨rfl, N3q, e3⟩ := hQ3
  have N3 := Fr.app N0 N3q
  obtain ⟨T4, X4, e4, st4⟩ := getF X3 hx hZ hown (host := "") (Or.inl (hw _ (List.mem_of_getElem? (i := 25) rfl))) Via.refl e3 F_value_a1 (g := (mkF m 8 #[.val (.ref a1), .val (.int p2)] [(.ref a1)])) rfl rfl (hb hby d2_8)
  obtain ⟨_, _, ⟨T5, L5, k5, n5⟩, -, X5, ⟨Lc5, hQ5, l5, y5, z5⟩, st5⟩ := Jvm.LawKit.callS X4 hx (y := (⟨"java/lang/StringLatin1", "charAt", "([BI)C"⟩ : MethodName)) hown (mvT hZ (hw _ (List.mem_of_getElem? (i := 27) rfl))) (mvT hZ (hw _ (List.mem_of_getElem? (i := 28) rfl))) (mvT hZ (hw _ (List.mem_of_getElem? (i := 29) rfl))) (mvT hZ (hw _ (List.mem_of_getElem? (i := 30) rfl))) (by decide) (backOf (W := 0) (rm4 l Z a0 hw [] w_val p2 z_w_val c_w_val w_SIO h0 n0 Z0 V_w_val S_SIOOBE_FORMATTER hcat hin) hZ (hw _ (List.mem_of_getElem? (i := 30) rfl)) (hw _ (List.mem_of_getElem? (i := 29) rfl)) (by decide) (by decide)) (g := (mkF m 12 #[.val (.ref a1), .val (.int p2)] [(.int p2), (.ref w_val)])) rfl (by rw [hml]; rfl) (argsL := [(.ref w_val), (.int p2)]) (rest := []) (lenOf pd_3 rfl) rfl (by show 2 * 0 + _ ≤ _; exact Nat.le_of_eq rfl) (hb hby d2_12) (fun _ _ => ⟨rfl, e4, (by decide : 0 + 0 ≤ _), (by decide : 0 + 0 ≤ _)⟩)
  dsimp only [Pt.U, Pt.locs, Pt.cells, Pt.slots] at X5 l5 y5 z5 st5 hQ5
  subst l5 y5 z5
  obtain ⟨rfl, N5q, e5⟩ := hQ5
  have N5 := Fr.app N3 N5q
  have eq1 : (f2 a1 p2 w_CS w_coder_a1 w_val z_w_val c_w_val) = (nar .char (f4 w_val p2 z_w_val c_w_val)) := rfl
  obtain ⟨fs, hr, hrun, hended, hW, hsame⟩ := X5.leave (v := some (.int (nar .char (f4 w_val p2 z_w_val c_w_val)))) (fun h => by rw [Bd.returns] at h; cases h)
  refine ⟨_, _, pre0 _ ?_, hrun, hended, _, _, rfl, ?_, ⟨_, rfl⟩, hW, hsame.mono (by decide) (by decide)⟩
  · show Steps p.tables e below (s₁.setTop (mkF m 0 #[.val (.ref a1), .val (.int p2)] [])) _
    refine XS.aloadN X0.here hx rfl (hb hby d2_0) rfl rfl ?_
    show Steps p.tables e below (s₁.setTop (mkF m 1 #[.val (.ref a1), .val (.int p2)] [(.ref a1)])) _
    refine st3.trans ?_
    show Steps p.tables e below (T3.setTop (mkF m 4 #[.val (.ref a1), .val (.int p2)] [(.int (f3 a1 w_CS w_coder_a1))])) _
    refine XS.ifNo X3.here hx rfl (hb hby d2_4) rfl ((if0 _ _).trans (feq (by unfold f3; rw [if_neg hcs, if_pos hcod]; decide : ¬ ((f3 a1 w_CS w_coder_a1) = (0 : Int32)))).1) ?_
    show Steps p.tables e below (T3.setTop (mkF m 7 #[.val (.ref a1), .val (.int p2)] [])) _
    refine XS.aloadN X3.here hx rfl (hb hby d2_7) rfl rfl ?_
    show Steps p.tables e below (T3.setTop (mkF m 8 #[.val (.ref a1), .val (.int p2)] [(.ref a1)])) _
    refine st4 _ ?_
    show Steps p.tables e below (T4.setTop (mkF m 11 #[.val (.ref a1), .val (.int p2)] [(.ref w_val)])) _
    refine XS.iloadN X4.here hx rfl (hb hby d2_11) rfl ?_
    show Steps p.tables e below (T4.setTop (mkF m 12 #[.val (.ref a1), .val (.int p2)] [(.int p2), (.ref w_val)])) _
    refine st5 _ ?_
    show Steps p.tables e below (T5.setTop (mkF m 15 #[.val (.ref a1), .val (.int p2)] [(.int (f4 w_val p2 z_w_val c_w_val))])) _
    exact retN X5 hx (t := .char) Bd.returns (by simp) (hb hby d2_15) hr
  · show Q2 Z a1 p2 w_CS w_coder_a1 w_val z_w_val c_w_val w_SIO h0 n0 _ T5.heap _
    rw [e5]
    exact ⟨by rw [eq1], N5, rfl⟩
theorem d7_0 : decode prog_35_method_5_code 0 = .ok (.aload_n 0, 1) := by decide +kernel
theorem d7_1 : decode prog_35_method_5_code 1 = .ok (.getstatic 3, 3) := by decide +kernel
theorem d7_4 : decode prog_35_method_5_code 4 = .ok (.if_acmp .eq 14, 3) := by decide +kernel
theorem d7_7 : decode prog_35_method_5_code 7 = .ok (.aload_n 0, 1) := by decide +kernel
theorem d7_8 : decode prog_35_method_5_code 8 = .ok (.getstatic 7, 3) := by decide +kernel
theorem d7_11 : decode prog_35_method_5_code 11 = .ok (.if_acmp .eq 7, 3) := by decide +kernel
theorem d7_14 : decode prog_35_method_5_code 14 = .ok (.iconst 1, 1) := by decide +kernel
theorem d7_15 : decode prog_35_method_5_code 15 = .ok (.goto 4, 3) := by decide +kernel
theorem d7_18 : decode prog_35_method_5_code 18 = .ok (.iconst 0, 1) := by decide +kernel
theorem d7_19 : decode prog_35_method_5_code 19 = .ok (.ireturn, 1) := by decide +kernel
theorem ef_7 (m : MethodId) (x0 : Addr) : entryFrame m #[(.ref x0)] 1 = mkF m 0 #[.val (.ref x0)] [] := by first | (simp [entryFrame, mkF, argsToLocals, Value.category]; done) | rfl
def f7 (a1 : Addr) (w_EQUAL : Addr) (w_NOT_EQUAL : Addr) : Int32 := (if a1 = w_EQUAL then (0 : Int32) else (if a1 = w_NOT_EQUAL then (0 : Int32) else (1 : Int32)))
def Q7 (Z : State) (a1 : Addr) (w_EQUAL : Addr) (w_NOT_EQUAL : Addr) (h0 : Heap) (n0 : Nat) (v : Option Value) (h : Heap) (L : List Loc) : Prop := v = some (.int (f7 a1 w_EQUAL w_NOT_EQUAL)) ∧ Fr n0 L ∧ h = h0
set_option maxRecDepth 65536 in
set_option maxHeartbeats 40000000 in
theorem rm7 (l : Launch) (Z : State) (a0 : Array Value) (hw : ∀ d ∈ tables_1, d.before a0 Z = true) (ws : List Jvm.Cond) (a1 : Addr) (w_EQUAL : Addr) (w_NOT_EQUAL : Addr) (h0 : Heap) (n0 : Nat) (Z0 : n0 ≤ h0.size) (S_EQUAL : Sta Z h0 "com/example/inline_monitor/inlinemonitor/model/Guard$Relation" "EQUAL" "Lcom/example/inline_monitor/inlinemonitor/model/Guard$Relation;" (.ref w_EQUAL)) (S_NOT_EQUAL : Sta Z h0 "com/example/inline_monitor/inlinemonitor/model/Guard$Relation" "NOT_EQUAL" "Lcom/example/inline_monitor/inlinemonitor/model/Guard$Relation;" (.ref w_NOT_EQUAL)) :
    MetFree l (⟨"com/example/inline_monitor/inlinemonitor/model/Guard$Relation", "isOrdering", "()Z"⟩ : MethodName) (head1 (Jvm.Cond.code (⟨"com/example/inline_monitor/inlinemonitor/model/Guard$Relation", "isOrdering", "()Z"⟩ : MethodName) prog_35_method_5_code 1 (some .boolean) :: ws) ({ frames := 0, cells := 0, slots := 0, locals := 0 } : Room)) (fun a U => a = #[(.ref a1)] ∧ Z.Warmed39 U.vm ∧ U.heap = h0) (fun _ _ _ _ _ => True) (fun _ U o U' => ∃ v L, o = .returned v ∧ Q7 Z a1 w_EQUAL w_NOT_EQUAL h0 n0 v U'.heap L ∧ FrameEnd U o U' L ({ frames := 0, cells := 0, slots := 0, locals := 0 } : Room).cells ({ frames := 0, cells := 0, slots := 0, locals := 0 } : Room).slots) := by
  refine MetFree.of_bodySF (plainFor_of_name pn_0) hisR ?_
  intro p e s m args below meth c s₁ Bd hml0 hP hK
  obtain ⟨rfl, hZ, hh⟩ := hP
  have hx := Bd.exec
  have hby := Bd.bytes
  have hml : c.maxLocals = 1 := hml0
  have hown : s.vm.findClass "com/example/inline_monitor/inlinemonitor/model/Guard$Relation" = some m.cls := findClass_of_methodNamed Bd.named
  have hnm := (name_of_methodNamed Bd.named Bd.method).1
  have X0 : Stand p l e ({ frames := 0, cells := 0, slots := 0, locals := 0 } : Room) s m #[(.ref a1)] below meth c s₁ [] 0 0 := Stand.of_body Bd
  have e0 : s₁.heap = h0 := by rw [← hh, Bd.state]; rfl
  have N0 := Fr.nil n0
  have pre0 : ∀ t, Steps p.tables e below (s₁.setTop (mkF m 0 #[.val (.ref a1)] [])) t → Steps p.tables e below (s₁.setTop (entryFrame m #[(.ref a1)] 1)) t := fun t k => castTop (ef_7 m a1) k
  obtain ⟨T2, X2, e2, st2⟩ := getS2 X0 hx hZ hown (host := "") (Or.inl (hw _ (List.mem_of_getElem? (i := 44) rfl))) Via.refl e0 S_EQUAL (g := (mkF m 1 #[.val (.ref a1)] [(.ref a1)])) rfl (hb hby d7_1)
  have pre1 : ∀ t, Steps p.tables e below (T2.setTop (mkF m 4 #[.val (.ref a1)] [(.ref w_EQUAL), (.ref a1)])) t → Steps p.tables e below (s₁.setTop (entryFrame m #[(.ref a1)] 1)) t := by
    intro t k
    refine pre0 t ?_
    show Steps p.tables e below (s₁.setTop (mkF m 0 #[.val (.ref a1)] [])) _
    refine XS.aloadN X0.here hx rfl (hb hby d7_0) rfl rfl ?_
    show Steps p.tables e below (s₁.setTop (mkF m 1 #[.val (.ref a1)] [(.ref a1)])) _
    refine st2 _ ?_
    exact k
  by_cases hc4 : a1 = w_EQUAL
  · have eq2 : (f7 a1 w_EQUAL w_NOT_EQUAL) = (0 : Int32) := by unfold f7; simp only [if_pos hc4]
    obtain ⟨fs, hr, hrun, hended, hW, hsame⟩ := X2.leave (v := some (.int (0 : Int32))) (fun h => by rw [Bd.returns] at h; cases h)
    refine ⟨_, _, pre1 _ ?_, hrun, hended, _, _, rfl, ?_, ⟨_, rfl⟩, hW, hsame.mono (by decide) (by decide)⟩
    · show Steps p.tables e below (T2.setTop (mkF m 4 #[.val (.ref a1)] [(.ref w_EQUAL), (.ref a1)])) _
      refine Jvm.RoadKit.acmp (g := (mkF m 4 #[.val (.ref a1)] [(.ref w_EQUAL), (.ref a1)])) X2 hx rfl rfl rfl (pc0 := 4) (pc' := 18) (same := true) rfl (hb hby d7_4) rfl (decide_eq_true (congrArg Value.ref hc4)) (by decide) (by decide) ?_
      show Steps p.tables e below (T2.setTop (mkF m 18 #[.val (.ref a1)] [])) _
      refine XS.iconst X2.here hx rfl (hb hby d7_18) ?_
      show Steps p.tables e below (T2.setTop (mkF m 19 #[.val (.ref a1)] [(.int (0 : Int32))])) _
      exact retN X2 hx (t := .boolean) Bd.returns (by simp) (hb hby d7_19) hr
    · show Q7 Z a1 w_EQUAL w_NOT_EQUAL h0 n0 _ T2.heap _
      rw [e2]
      exact ⟨by rw [eq2], N0, rfl⟩
  · obtain ⟨T3, X3, e3, st3⟩ := getS2 X2 hx hZ hown (host := "") (Or.inl (hw _ (List.mem_of_getElem? (i := 47) rfl))) Via.refl e2 S_NOT_EQUAL (g := (mkF m 8 #[.val (.ref a1)] [(.ref a1)])) rfl (hb hby d7_8)
    have pre3 : ∀ t, Steps p.tables e below (T3.setTop (mkF m 11 #[.val (.ref a1)] [(.ref w_NOT_EQUAL), (.ref a1)])) t → Steps p.tables e below (s₁.setTop (entryFrame m #[(.ref a1)] 1)) t := by
      intro t k
      refine pre1 t ?_
      show Steps p.tables e below (T2.setTop (mkF m 4 #[.val (.ref a1)] [(.ref w_EQUAL), (.ref a1)])) _
      refine Jvm.RoadKit.acmp (g := (mkF m 4 #[.val (.ref a1)] [(.ref w_EQUAL), (.ref a1)])) X2 hx rfl rfl rfl (pc0 := 4) (pc' := 7) (same := false) rfl (hb hby d7_4) rfl (decide_eq_false fun q => hc4 (Value.ref.inj q)) (by decide) (by decide) ?_
      show Steps p.tables e below (T2.setTop (mkF m 7 #[.val (.ref a1)] [])) _
      refine XS.aloadN X2.here hx rfl (hb hby d7_7) rfl rfl ?_
      show Steps p.tables e below (T2.setTop (mkF m 8 #[.val (.ref a1)] [(.ref a1)])) _
      refine st3 _ ?_
      exact k
    by_cases hc11 : a1 = w_NOT_EQUAL
    · have eq4 : (f7 a1 w_EQUAL w_NOT_EQUAL) = (0 : Int32) := by unfold f7; simp only [if_neg hc4, if_pos hc11]
      obtain ⟨fs, hr, hrun, hended, hW, hsame⟩ := X3.leave (v := some (.int (0 : Int32))) (fun h => by rw [Bd.returns] at h; cases h)
      refine ⟨_, _, pre3 _ ?_, hrun, hended, _, _, rfl, ?_, ⟨_, rfl⟩, hW, hsame.mono (by decide) (by decide)⟩
      · show Steps p.tables e below (T3.setTop (mkF m 11 #[.val (.ref a1)] [(.ref w_NOT_EQUAL), (.ref a1)])) _
        refine Jvm.RoadKit.acmp (g := (mkF m 11 #[.val (.ref a1)] [(.ref w_NOT_EQUAL), (.ref a1)])) X3 hx rfl rfl rfl (pc0 := 11) (pc' := 18) (same := true) rfl (hb hby d7_11) rfl (decide_eq_true (congrArg Value.ref hc11)) (by decide) (by decide) ?_
        show Steps p.tables e below (T3.setTop (mkF m 18 #[.val (.ref a1)] [])) _
        refine XS.iconst X3.here hx rfl (hb hby d7_18) ?_
        show Steps p.tables e below (T3.setTop (mkF m 19 #[.val (.ref a1)] [(.int (0 : Int32))])) _
        exact retN X3 hx (t := .boolean) Bd.returns (by simp) (hb hby d7_19) hr
      · show Q7 Z a1 w_EQUAL w_NOT_EQUAL h0 n0 _ T3.heap _
        rw [e3]
        exact ⟨by rw [eq4], N0, rfl⟩
    · have eq5 : (f7 a1 w_EQUAL w_NOT_EQUAL) = (1 : Int32) := by unfold f7; simp only [if_neg hc4, if_neg hc11]
      obtain ⟨fs, hr, hrun, hended, hW, hsame⟩ := X3.leave (v := some (.int (1 : Int32))) (fun h => by rw [Bd.returns] at h; cases h)
      refine ⟨_, _, pre3 _ ?_, hrun, hended, _, _, rfl, ?_, ⟨_, rfl⟩, hW, hsame.mono (by decide) (by decide)⟩
      · show Steps p.tables e below (T3.setTop (mkF m 11 #[.val (.ref a1)] [(.ref w_NOT_EQUAL), (.ref a1)])) _
        refine Jvm.RoadKit.acmp (g := (mkF m 11 #[.val (.ref a1)] [(.ref w_NOT_EQUAL), (.ref a1)])) X3 hx rfl rfl rfl (pc0 := 11) (pc' := 14) (same := false) rfl (hb hby d7_11) rfl (decide_eq_false fun q => hc11 (Value.ref.inj q)) (by decide) (by decide) ?_
        show Steps p.tables e below (T3.setTop (mkF m 14 #[.val (.ref a1)] [])) _
        refine XS.iconst X3.here hx rfl (hb hby d7_14) ?_
        show Steps p.tables e below (T3.setTop (mkF m 15 #[.val (.ref a1)] [(.int (1 : Int32))])) _
        refine XS.goto X3.here hx rfl (pc0 := 15) (pc' := 19) rfl (hb hby d7_15) (by decide) (by decide) ?_
        show Steps p.tables e below (T3.setTop (mkF m 19 #[.val (.ref a1)] [(.int (1 : Int32))])) _
        exact retN X3 hx (t := .boolean) Bd.returns (by simp) (hb hby d7_19) hr
      · show Q7 Z a1 w_EQUAL w_NOT_EQUAL h0 n0 _ T3.heap _
        rw [e3]
        exact ⟨by rw [eq5], N0, rfl⟩
theorem pd_4 : parseMethodDescriptor "()Ljava/lang/String;" = some ⟨[], some (.object "java/lang/String")⟩ := by decide +kernel
theorem pd_5 : parseMethodDescriptor "(I)C" = some ⟨[.int], some .char⟩ := by decide +kernel
theorem pn_4 : plainName "com/example/inline_monitor/inlinemonitor/model/RelationIsOrderingPinLaw" = true := by first | (simp [plainName, overriddenIn]; done) | decide +kernel
theorem ef_0 (m : MethodId) (x0 : Int32) : entryFrame m #[(.int x0)] maxLocals = mkF m 0 #[.val (.int x0), .unset, .unset, .unset, .unset, .unset, .unset] [] := by first | (simp [entryFrame, mkF, argsToLocals, Value.category, maxLocals]; done) | rfl
def f0_v6 (p1 : Int32) : Int32 := ((p1 &&& (2147483647 : Int32)) - ((p1 &&& (2147483647 : Int32)) / (6 : Int32)) * (6 : Int32))
def f0_s0_81 (p1 : Int32) : Int32 := (if (f0_v6 p1) < (2 : Int32) then (0 : Int32) else (1 : Int32))
def f0_s0_115 (w_CS : Int32) (y_EQUAL : Addr) (k_EQUAL : Int32) (v_EQUAL : Addr) (z_v_EQUAL : Int32) (c_v_EQUAL : Nat → Int32) : Int32 := (if (f2 y_EQUAL (0 : Int32) w_CS k_EQUAL v_EQUAL z_v_EQUAL c_v_EQUAL) = (60 : Int32) then (1 : Int32) else (if (f2 y_EQUAL (0 : Int32) w_CS k_EQUAL v_EQUAL z_v_EQUAL c_v_EQUAL) = (62 : Int32) then (1 : Int32) else (0 : Int32)))
def f0_s0_81_3 (p1 : Int32) : Int32 := (if (f0_v6 p1) < (2 : Int32) then (0 : Int32) else (1 : Int32))
def f0_s0_115_4 (w_CS : Int32) (y_NOT_EQUAL : Addr) (k_NOT_EQUAL : Int32) (v_NOT_EQUAL : Addr) (z_v_NOT_EQUAL : Int32) (c_v_NOT_EQUAL : Nat → Int32) : Int32 := (if (f2 y_NOT_EQUAL (0 : Int32) w_CS k_NOT_EQUAL v_NOT_EQUAL z_v_NOT_EQUAL c_v_NOT_EQUAL) = (60 : Int32) then (1 : Int32) else (if (f2 y_NOT_EQUAL (0 : Int32) w_CS k_NOT_EQUAL v_NOT_EQUAL z_v_NOT_EQUAL c_v_NOT_EQUAL) = (62 : Int32) then (1 : Int32) else (0 : Int32)))
def f0_s0_81_5 (p1 : Int32) : Int32 := (if (f0_v6 p1) < (2 : Int32) then (0 : Int32) else (1 : Int32))
def f0_s0_115_6 (w_CS : Int32) (y_LESS : Addr) (k_LESS : Int32) (v_LESS : Addr) (z_v_LESS : Int32) (c_v_LESS : Nat → Int32) : Int32 := (if (f2 y_LESS (0 : Int32) w_CS k_LESS v_LESS z_v_LESS c_v_LESS) = (60 : Int32) then (1 : Int32) else (if (f2 y_LESS (0 : Int32) w_CS k_LESS v_LESS z_v_LESS c_v_LESS) = (62 : Int32) then (1 : Int32) else (0 : Int32)))
def f0_s0_81_7 (p1 : Int32) : Int32 := (if (f0_v6 p1) < (2 : Int32) then (0 : Int32) else (1 : Int32))
def f0_v94 (w_CS : Int32) (y_LESS_OR_EQUAL : Addr) (k_LESS_OR_EQUAL : Int32) (v_LESS_OR_EQUAL : Addr) (z_v_LESS_OR_EQUAL : Int32) (c_v_LESS_OR_EQUAL : Nat → Int32) : Int32 := (f2 y_LESS_OR_EQUAL (0 : Int32) w_CS k_LESS_OR_EQUAL v_LESS_OR_EQUAL z_v_LESS_OR_EQUAL c_v_LESS_OR_EQUAL)
def f0_s0_115_8 (w_CS : Int32) (y_LESS_OR_EQUAL : Addr) (k_LESS_OR_EQUAL : Int32) (v_LESS_OR_EQUAL : Addr) (z_v_LESS_OR_EQUAL : Int32) (c_v_LESS_OR_EQUAL : Nat → Int32) : Int32 := (if (f0_v94 w_CS y_LESS_OR_EQUAL k_LESS_OR_EQUAL v_LESS_OR_EQUAL z_v_LESS_OR_EQUAL c_v_LESS_OR_EQUAL) = (60 : Int32) then (1 : Int32) else (if (f0_v94 w_CS y_LESS_OR_EQUAL k_LESS_OR_EQUAL v_LESS_OR_EQUAL z_v_LESS_OR_EQUAL c_v_LESS_OR_EQUAL) = (62 : Int32) then (1 : Int32) else (0 : Int32)))
def f0_v115 (w_CS : Int32) (y_LESS_OR_EQUAL : Addr) (k_LESS_OR_EQUAL : Int32) (v_LESS_OR_EQUAL : Addr) (z_v_LESS_OR_EQUAL : Int32) (c_v_LESS_OR_EQUAL : Nat → Int32) : Int32 := (f0_s0_115_8 w_CS y_LESS_OR_EQUAL k_LESS_OR_EQUAL v_LESS_OR_EQUAL z_v_LESS_OR_EQUAL c_v_LESS_OR_EQUAL)
def f0_s0_81_9 (p1 : Int32) : Int32 := (if (f0_v6 p1) < (2 : Int32) then (0 : Int32) else (1 : Int32))
def f0_s0_115_10 (w_CS : Int32) (y_GREATER : Addr) (k_GREATER : Int32) (v_GREATER : Addr) (z_v_GREATER : Int32) (c_v_GREATER : Nat → Int32) : Int32 := (if (f2 y_GREATER (0 : Int32) w_CS k_GREATER v_GREATER z_v_GREATER c_v_GREATER) = (60 : Int32) then (1 : Int32) else (if (f2 y_GREATER (0 : Int32) w_CS k_GREATER v_GREATER z_v_GREATER c_v_GREATER) = (62 : Int32) then (1 : Int32) else (0 : Int32)))
def f0_s0_81_11 (p1 : Int32) : Int32 := (if (f0_v6 p1) < (2 : Int32) then (0 : Int32) else (1 : Int32))
def f0_v94_12 (w_CS : Int32) (y_GREATER_OR_EQUAL : Addr) (k_GREATER_OR_EQUAL : Int32) (v_GREATER_OR_EQUAL : Addr) (z_v_GREATER_OR_EQUAL : Int32) (c_v_GREATER_OR_EQUAL : Nat → Int32) : Int32 := (f2 y_GREATER_OR_EQUAL (0 : Int32) w_CS k_GREATER_OR_EQUAL v_GREATER_OR_EQUAL z_v_GREATER_OR_EQUAL c_v_GREATER_OR_EQUAL)
def f0_s0_115_13 (w_CS : Int32) (y_GREATER_OR_EQUAL : Addr) (k_GREATER_OR_EQUAL : Int32) (v_GREATER_OR_EQUAL : Addr) (z_v_GREATER_OR_EQUAL : Int32) (c_v_GREATER_OR_EQUAL : Nat → Int32) : Int32 := (if (f0_v94_12 w_CS y_GREATER_OR_EQUAL k_GREATER_OR_EQUAL v_GREATER_OR_EQUAL z_v_GREATER_OR_EQUAL c_v_GREATER_OR_EQUAL) = (60 : Int32) then (1 : Int32) else (if (f0_v94_12 w_CS y_GREATER_OR_EQUAL k_GREATER_OR_EQUAL v_GREATER_OR_EQUAL z_v_GREATER_OR_EQUAL c_v_GREATER_OR_EQUAL) = (62 : Int32) then (1 : Int32) else (0 : Int32)))
def f0_v115_14 (w_CS : Int32) (y_GREATER_OR_EQUAL : Addr) (k_GREATER_OR_EQUAL : Int32) (v_GREATER_OR_EQUAL : Addr) (z_v_GREATER_OR_EQUAL : Int32) (c_v_GREATER_OR_EQUAL : Nat → Int32) : Int32 := (f0_s0_115_13 w_CS y_GREATER_OR_EQUAL k_GREATER_OR_EQUAL v_GREATER_OR_EQUAL z_v_GREATER_OR_EQUAL c_v_GREATER_OR_EQUAL)
def f0 (p1 : Int32) (w_EQUAL : Addr) (w_NOT_EQUAL : Addr) (w_LESS : Addr) (w_LESS_OR_EQUAL : Addr) (w_GREATER : Addr) (w_GREATER_OR_EQUAL : Addr) (w_CS : Int32) (y_EQUAL : Addr) (k_EQUAL : Int32) (v_EQUAL : Addr) (z_v_EQUAL : Int32) (c_v_EQUAL : Nat → Int32) (y_NOT_EQUAL : Addr) (k_NOT_EQUAL : Int32) (v_NOT_EQUAL : Addr) (z_v_NOT_EQUAL : Int32) (c_v_NOT_EQUAL : Nat → Int32) (y_LESS : Addr) (k_LESS : Int32) (v_LESS : Addr) (z_v_LESS : Int32) (c_v_LESS : Nat → Int32) (y_LESS_OR_EQUAL : Addr) (k_LESS_OR_EQUAL : Int32) (v_LESS_OR_EQUAL : Addr) (z_v_LESS_OR_EQUAL : Int32) (c_v_LESS_OR_EQUAL : Nat → Int32) (y_GREATER : Addr) (k_GREATER : Int32) (v_GREATER : Addr) (z_v_GREATER : Int32) (c_v_GREATER : Nat → Int32) (y_GREATER_OR_EQUAL : Addr) (k_GREATER_OR_EQUAL : Int32) (v_GREATER_OR_EQUAL : Addr) (z_v_GREATER_OR_EQUAL : Int32) (c_v_GREATER_OR_EQUAL : Nat → Int32) : Int32 := (if (f0_v6 p1) = (0 : Int32) then (if (f7 w_EQUAL w_EQUAL w_NOT_EQUAL) = (f0_s0_81 p1) then (if (f0_s0_81 p1) = (f0_s0_115 w_CS y_EQUAL k_EQUAL v_EQUAL z_v_EQUAL c_v_EQUAL) then (1 : Int32) else (0 : Int32)) else (0 : Int32)) else (if (f0_v6 p1) = (1 : Int32) then (if (f7 w_NOT_EQUAL w_EQUAL w_NOT_EQUAL) = (f0_s0_81_3 p1) then (if (f0_s0_81_3 p1) = (f0_s0_115_4 w_CS y_NOT_EQUAL k_NOT_EQUAL v_NOT_EQUAL z_v_NOT_EQUAL c_v_NOT_EQUAL) then (1 : Int32) else (0 : Int32)) else (0 : Int32)) else (if (f0_v6 p1) = (2 : Int32) then (if (f7 w_LESS w_EQUAL w_NOT_EQUAL) = (f0_s0_81_5 p1) then (if (f0_s0_81_5 p1) = (f0_s0_115_6 w_CS y_LESS k_LESS v_LESS z_v_LESS c_v_LESS) then (1 : Int32) else (0 : Int32)) else (0 : Int32)) else (if (f0_v6 p1) = (3 : Int32) then (if (f7 w_LESS_OR_EQUAL w_EQUAL w_NOT_EQUAL) = (f0_s0_81_7 p1) then (if (f0_s0_81_7 p1) = (f0_v115 w_CS y_LESS_OR_EQUAL k_LESS_OR_EQUAL v_LESS_OR_EQUAL z_v_LESS_OR_EQUAL c_v_LESS_OR_EQUAL) then (1 : Int32) else (0 : Int32)) else (0 : Int32)) else (if (f0_v6 p1) = (4 : Int32) then (if (f7 w_GREATER w_EQUAL w_NOT_EQUAL) = (f0_s0_81_9 p1) then (if (f0_s0_81_9 p1) = (f0_s0_115_10 w_CS y_GREATER k_GREATER v_GREATER z_v_GREATER c_v_GREATER) then (1 : Int32) else (0 : Int32)) else (0 : Int32)) else (if (f7 w_GREATER_OR_EQUAL w_EQUAL w_NOT_EQUAL) = (f0_s0_81_11 p1) then (if (f0_s0_81_11 p1) = (f0_v115_14 w_CS y_GREATER_OR_EQUAL k_GREATER_OR_EQUAL v_GREATER_OR_EQUAL z_v_GREATER_OR_EQUAL c_v_GREATER_OR_EQUAL) then (1 : Int32) else (0 : Int32)) else (0 : Int32)))))))
def Q0 (Z : State) (p1 : Int32) (w_EQUAL : Addr) (w_NOT_EQUAL : Addr) (w_LESS : Addr) (w_LESS_OR_EQUAL : Addr) (w_GREATER : Addr) (w_GREATER_OR_EQUAL : Addr) (w_CS : Int32) (w_SIO : Value) (y_EQUAL : Addr) (k_EQUAL : Int32) (v_EQUAL : Addr) (z_v_EQUAL : Int32) (c_v_EQUAL : Nat → Int32) (y_NOT_EQUAL : Addr) (k_NOT_EQUAL : Int32) (v_NOT_EQUAL : Addr) (z_v_NOT_EQUAL : Int32) (c_v_NOT_EQUAL : Nat → Int32) (y_LESS : Addr) (k_LESS : Int32) (v_LESS : Addr) (z_v_LESS : Int32) (c_v_LESS : Nat → Int32) (y_LESS_OR_EQUAL : Addr) (k_LESS_OR_EQUAL : Int32) (v_LESS_OR_EQUAL : Addr) (z_v_LESS_OR_EQUAL : Int32) (c_v_LESS_OR_EQUAL : Nat → Int32) (y_GREATER : Addr) (k_GREATER : Int32) (v_GREATER : Addr) (z_v_GREATER : Int32) (c_v_GREATER : Nat → Int32) (y_GREATER_OR_EQUAL : Addr) (k_GREATER_OR_EQUAL : Int32) (v_GREATER_OR_EQUAL : Addr) (z_v_GREATER_OR_EQUAL : Int32) (c_v_GREATER_OR_EQUAL : Nat → Int32) (h0 : Heap) (n0 : Nat) (v : Option Value) (h : Heap) (L : List Loc) : Prop := v = some (.int (f0 p1 w_EQUAL w_NOT_EQUAL w_LESS w_LESS_OR_EQUAL w_GREATER w_GREATER_OR_EQUAL w_CS y_EQUAL k_EQUAL v_EQUAL z_v_EQUAL c_v_EQUAL y_NOT_EQUAL k_NOT_EQUAL v_NOT_EQUAL z_v_NOT_EQUAL c_v_NOT_EQUAL y_LESS k_LESS v_LESS z_v_LESS c_v_LESS y_LESS_OR_EQUAL k_LESS_OR_EQUAL v_LESS_OR_EQUAL z_v_LESS_OR_EQUAL c_v_LESS_OR_EQUAL y_GREATER k_GREATER v_GREATER z_v_GREATER c_v_GREATER y_GREATER_OR_EQUAL k_GREATER_OR_EQUAL v_GREATER_OR_EQUAL z_v_GREATER_OR_EQUAL c_v_GREATER_OR_EQUAL)) ∧ Fr n0 L ∧ True
set_option maxRecDepth 65536 in
set_option maxHeartbeats 40000000 in
theorem rm0 (l : Launch) (Z : State) (a0 : Array Value) (hw : ∀ d ∈ tables_1, d.before a0 Z = true) (ws : List Jvm.Cond) (p1 : Int32) (w_EQUAL : Addr) (w_NOT_EQUAL : Addr) (w_LESS : Addr) (w_LESS_OR_EQUAL : Addr) (w_GREATER : Addr) (w_GREATER_OR_EQUAL : Addr) (w_CS : Int32) (w_SIO : Value) (y_EQUAL : Addr) (k_EQUAL : Int32) (v_EQUAL : Addr) (z_v_EQUAL : Int32) (c_v_EQUAL : Nat → Int32) (y_NOT_EQUAL : Addr) (k_NOT_EQUAL : Int32) (v_NOT_EQUAL : Addr) (z_v_NOT_EQUAL : Int32) (c_v_NOT_EQUAL : Nat → Int32) (y_LESS : Addr) (k_LESS : Int32) (v_LESS : Addr) (z_v_LESS : Int32) (c_v_LESS : Nat → Int32) (y_LESS_OR_EQUAL : Addr) (k_LESS_OR_EQUAL : Int32) (v_LESS_OR_EQUAL : Addr) (z_v_LESS_OR_EQUAL : Int32) (c_v_LESS_OR_EQUAL : Nat → Int32) (y_GREATER : Addr) (k_GREATER : Int32) (v_GREATER : Addr) (z_v_GREATER : Int32) (c_v_GREATER : Nat → Int32) (y_GREATER_OR_EQUAL : Addr) (k_GREATER_OR_EQUAL : Int32) (v_GREATER_OR_EQUAL : Addr) (z_v_GREATER_OR_EQUAL : Int32) (c_v_GREATER_OR_EQUAL : Nat → Int32) (h0 : Heap) (n0 : Nat) (Z0 : n0 ≤ h0.size) (S_EQUAL : Sta Z h0 "com/example/inline_monitor/inlinemonitor/model/Guard$Relation" "EQUAL" "Lcom/example/inline_monitor/inlinemonitor/model/Guard$Relation;" (.ref w_EQUAL)) (S_NOT_EQUAL : Sta Z h0 "com/example/inline_monitor/inlinemonitor/model/Guard$Relation" "NOT_EQUAL" "Lcom/example/inline_monitor/inlinemonitor/model/Guard$Relation;" (.ref w_NOT_EQUAL)) (S_LESS : Sta Z h0 "com/example/inline_monitor/inlinemonitor/model/Guard$Relation" "LESS" "Lcom/example/inline_monitor/inlinemonitor/model/Guard$Relation;" (.ref w_LESS)) (S_LESS_OR_EQUAL : Sta Z h0 "com/example/inline_monitor/inlinemonitor/model/Guard$Relation" "LESS_OR_EQUAL" "Lcom/example/inline_monitor/inlinemonitor/model/Guard$Relation;" (.ref w_LESS_OR_EQUAL)) (S_GREATER : Sta Z h0 "com/example/inline_monitor/inlinemonitor/model/Guard$Relation" "GREATER" "Lcom/example/inline_monitor/inlinemonitor/model/Guard$Relation;" (.ref w_GREATER)) (S_GREATER_OR_EQUAL : Sta Z h0 "com/example/inline_monitor/inlinemonitor/model/Guard$Relation" "GREATER_OR_EQUAL" "Lcom/example/inline_monitor/inlinemonitor/model/Guard$Relation;" (.ref w_GREATER_OR_EQUAL)) (E_w_EQUAL : Exa Z h0 w_EQUAL "com/example/inline_monitor/inlinemonitor/model/Guard$Relation") (E_w_NOT_EQUAL : Exa Z h0 w_NOT_EQUAL "com/example/inline_monitor/inlinemonitor/model/Guard$Relation") (E_w_LESS : Exa Z h0 w_LESS "com/example/inline_monitor/inlinemonitor/model/Guard$Relation") (E_w_LESS_OR_EQUAL : Exa Z h0 w_LESS_OR_EQUAL "com/example/inline_monitor/inlinemonitor/model/Guard$Relation") (E_w_GREATER : Exa Z h0 w_GREATER "com/example/inline_monitor/inlinemonitor/model/Guard$Relation") (E_w_GREATER_OR_EQUAL : Exa Z h0 w_GREATER_OR_EQUAL "com/example/inline_monitor/inlinemonitor/model/Guard$Relation") (S_COMPACT_STRINGS : Sta Z h0 "java/lang/String" "COMPACT_STRINGS" "Z" (.int w_CS)) (hcs : ¬ w_CS = 0) (S_SIOOBE_FORMATTER : Sta Z h0 "jdk/internal/util/Preconditions" "SIOOBE_FORMATTER" "Ljava/util/function/BiFunction;" w_SIO) (hcat : w_SIO.category = 1) (F_symbol_w_EQUAL : Fld Z h0 w_EQUAL "com/example/inline_monitor/inlinemonitor/model/Guard$Relation" "symbol" "Ljava/lang/String;" (.ref y_EQUAL)) (E_y_EQUAL : Exa Z h0 y_EQUAL "java/lang/String") (F_coder_y_EQUAL : Fld Z h0 y_EQUAL "java/lang/String" "coder" "B" (.int k_EQUAL)) (hk_EQUAL : k_EQUAL = 0) (F_value_y_EQUAL : Fld Z h0 y_EQUAL "java/lang/String" "value" "[B" (.ref v_EQUAL)) (V_v_EQUAL : IAr Z h0 v_EQUAL .byte z_v_EQUAL c_v_EQUAL) (hl_EQUAL : (0 : Int32) < z_v_EQUAL) (F_symbol_w_NOT_EQUAL : Fld Z h0 w_NOT_EQUAL "com/example/inline_monitor/inlinemonitor/model/Guard$Relation" "symbol" "Ljava/lang/String;" (.ref y_NOT_EQUAL)) (E_y_NOT_EQUAL : Exa Z h0 y_NOT_EQUAL "java/lang/String") (F_coder_y_NOT_EQUAL : Fld Z h0 y_NOT_EQUAL "java/lang/String" "coder" "B" (.int k_NOT_EQUAL)) (hk_NOT_EQUAL : k_NOT_EQUAL = 0) (F_value_y_NOT_EQUAL : Fld Z h0 y_NOT_EQUAL "java/lang/String" "value" "[B" (.ref v_NOT_EQUAL)) (V_v_NOT_EQUAL : IAr Z h0 v_NOT_EQUAL .byte z_v_NOT_EQUAL c_v_NOT_EQUAL) (hl_NOT_EQUAL : (0 : Int32) < z_v_NOT_EQUAL) (F_symbol_w_LESS : Fld Z h0 w_LESS "com/example/inline_monitor/inlinemonitor/model/Guard$Relation" "symbol" "Ljava/lang/String;" (.ref y_LESS)) (E_y_LESS : Exa Z h0 y_LESS "java/lang/String") (F_coder_y_LESS : Fld Z h0 y_LESS "java/lang/String" "coder" "B" (.int k_LESS)) (hk_LESS : k_LESS = 0) (F_value_y_LESS : Fld Z h0 y_LESS "java/lang/String" "value" "[B" (.ref v_LESS)) (V_v_LESS : IAr Z h0 v_LESS .byte z_v_LESS c_v_LESS) (hl_LESS : (0 : Int32) < z_v_LESS) (F_symbol_w_LESS_OR_EQUAL : Fld Z h0 w_LESS_OR_EQUAL "com/example/inline_monitor/inlinemonitor/model/Guard$Relation" "symbol" "Ljava/lang/String;" (.ref y_LESS_OR_EQUAL)) (E_y_LESS_OR_EQUAL : Exa Z h0 y_LESS_OR_EQUAL "java/lang/String") (F_coder_y_LESS_OR_EQUAL : Fld Z h0 y_LESS_OR_EQUAL "java/lang/String" "coder" "B" (.int k_LESS_OR_EQUAL)) (hk_LESS_OR_EQUAL : k_LESS_OR_EQUAL = 0) (F_value_y_LESS_OR_EQUAL : Fld Z h0 y_LESS_OR_EQUAL "java/lang/String" "value" "[B" (.ref v_LESS_OR_EQUAL)) (V_v_LESS_OR_EQUAL : IAr Z h0 v_LESS_OR_EQUAL .byte z_v_LESS_OR_EQUAL c_v_LESS_OR_EQUAL) (hl_LESS_OR_EQUAL : (0 : Int32) < z_v_LESS_OR_EQUAL) (F_symbol_w_GREATER : Fld Z h0 w_GREATER "com/example/inline_monitor/inlinemonitor/model/Guard$Relation" "symbol" "Ljava/lang/String;" (.ref y_GREATER)) (E_y_GREATER : Exa Z h0 y_GREATER "java/lang/String") (F_coder_y_GREATER : Fld Z h0 y_GREATER "java/lang/String" "coder" "B" (.int k_GREATER)) (hk_GREATER : k_GREATER = 0) (F_value_y_GREATER : Fld Z h0 y_GREATER "java/lang/String" "value" "[B" (.ref v_GREATER)) (V_v_GREATER : IAr Z h0 v_GREATER .byte z_v_GREATER c_v_GREATER) (hl_GREATER : (0 : Int32) < z_v_GREATER) (F_symbol_w_GREATER_OR_EQUAL : Fld Z h0 w_GREATER_OR_EQUAL "com/example/inline_monitor/inlinemonitor/model/Guard$Relation" "symbol" "Ljava/lang/String;" (.ref y_GREATER_OR_EQUAL)) (E_y_GREATER_OR_EQUAL : Exa Z h0 y_GREATER_OR_EQUAL "java/lang/String") (F_coder_y_GREATER_OR_EQUAL : Fld Z h0 y_GREATER_OR_EQUAL "java/lang/String" "coder" "B" (.int k_GREATER_OR_EQUAL)) (hk_GREATER_OR_EQUAL : k_GREATER_OR_EQUAL = 0) (F_value_y_GREATER_OR_EQUAL : Fld Z h0 y_GREATER_OR_EQUAL "java/lang/String" "value" "[B" (.ref v_GREATER_OR_EQUAL)) (V_v_GREATER_OR_EQUAL : IAr Z h0 v_GREATER_OR_EQUAL .byte z_v_GREATER_OR_EQUAL c_v_GREATER_OR_EQUAL) (hl_GREATER_OR_EQUAL : (0 : Int32) < z_v_GREATER_OR_EQUAL) :
    MetFree l x (head1 (Jvm.Cond.code x code maxLocals ret :: ws) room_1) (fun a U => a = #[(.int p1)] ∧ Z.Warmed39 U.vm ∧ U.heap = h0) (fun _ _ _ _ _ => True) (fun _ U o U' => ∃ v L, o = .returned v ∧ Q0 Z p1 w_EQUAL w_NOT_EQUAL w_LESS w_LESS_OR_EQUAL w_GREATER w_GREATER_OR_EQUAL w_CS w_SIO y_EQUAL k_EQUAL v_EQUAL z_v_EQUAL c_v_EQUAL y_NOT_EQUAL k_NOT_EQUAL v_NOT_EQUAL z_v_NOT_EQUAL c_v_NOT_EQUAL y_LESS k_LESS v_LESS z_v_LESS c_v_LESS y_LESS_OR_EQUAL k_LESS_OR_EQUAL v_LESS_OR_EQUAL z_v_LESS_OR_EQUAL c_v_LESS_OR_EQUAL y_GREATER k_GREATER v_GREATER z_v_GREATER c_v_GREATER y_GREATER_OR_EQUAL k_GREATER_OR_EQUAL v_GREATER_OR_EQUAL z_v_GREATER_OR_EQUAL c_v_GREATER_OR_EQUAL h0 n0 v U'.heap L ∧ FrameEnd U o U' L room_1.cells room_1.slots) := by
  refine MetFree.of_bodySF (plainFor_of_name pn_4) hisR ?_
  intro p e s m args below meth c s₁ Bd hml0 hP hK
  obtain ⟨rfl, hZ, hh⟩ := hP
  have hx := Bd.exec
  have hby := Bd.bytes
  have hml : c.maxLocals = 7 := hml0
  have hown : s.vm.findClass "com/example/inline_monitor/inlinemonitor/model/RelationIsOrderingPinLaw" = some m.cls := findClass_of_methodNamed Bd.named
  have hnm := (name_of_methodNamed Bd.named Bd.method).1
  have X0 : Stand p l e room_1 s m #[(.int p1)] below meth c s₁ [] 0 0 := Stand.of_body Bd
  have e0 : s₁.heap = h0 := by rw [← hh, Bd.state]; rfl
  have N0 := Fr.nil n0
  have pre0 : ∀ t, Steps p.tables e below (s₁.setTop (mkF m 0 #[.val (.int p1), .unset, .unset, .unset, .unset, .unset, .unset] [])) t → Steps p.tables e below (s₁.setTop (entryFrame m #[(.int p1)] maxLocals)) t := fun t k => castTop (ef_0 m p1) k
  have pre1 : ∀ t, Steps p.tables e below (s₁.setTop (mkF m 9 #[.val (.int p1), .val (.int (f0_v6 p1)), .unset, .unset, .unset, .unset, .unset] [(.int (f0_v6 p1))])) t → Steps p.tables e below (s₁.setTop (entryFrame m #[(.int p1)] maxLocals)) t := by
    intro t k
    refine pre0 t ?_
    show Steps p.tables e below (s₁.setTop (mkF m 0 #[.val (.int p1), .unset, .unset, .unset, .unset, .unset, .unset] [])) _
    refine XS.iloadN X0.here hx rfl (hb hby at_0) rfl ?_
    show Steps p.tables e below (s₁.setTop (mkF m 1 #[.val (.int p1), .unset, .unset, .unset, .unset, .unset, .unset] [(.int p1)])) _
    refine X0.ldcInt hx hown (mvT hZ (hw _ (List.mem_of_getElem? (i := 0) rfl))) (g := (mkF m 1 #[.val (.int p1), .unset, .unset, .unset, .unset, .unset, .unset] [(.int p1)])) rfl (hb hby at_1) _ ?_
    show Steps p.tables e below (s₁.setTop (mkF m 3 #[.val (.int p1), .unset, .unset, .unset, .unset, .unset, .unset] [(.int (2147483647 : Int32)), (.int p1)])) _
    refine XS.iand X0.here hx rfl (hb hby at_3) rfl ?_
    show Steps p.tables e below (s₁.setTop (mkF m 4 #[.val (.int p1), .unset, .unset, .unset, .unset, .unset, .unset] [(.int (p1 &&& (2147483647 : Int32)))])) _
    refine XS.bipush X0.here hx rfl (hb hby at_4) ?_
    show Steps p.tables e below (s₁.setTop (mkF m 6 #[.val (.int p1), .unset, .unset, .unset, .unset, .unset, .unset] [(.int (6 : Int32)), (.int (p1 &&& (2147483647 : Int32)))])) _
    refine XS.irem X0.here hx rfl (hb hby at_6) rfl (by decide) ?_
    show Steps p.tables e below (s₁.setTop (mkF m 7 #[.val (.int p1), .unset, .unset, .unset, .unset, .unset, .unset] [(.int (f0_v6 p1))])) _
    refine XS.istoreN X0.here hx rfl (hb hby at_7) rfl (l' := #[.val (.int p1), .val (.int (f0_v6 p1)), .unset, .unset, .unset, .unset, .unset]) rfl ?_
    show Steps p.tables e below (s₁.setTop (mkF m 8 #[.val (.int p1), .val (.int (f0_v6 p1)), .unset, .unset, .unset, .unset, .unset] [])) _
    refine XS.iloadN X0.here hx rfl (hb hby at_8) rfl ?_
    exact k
  by_cases hc9 : (f0_v6 p1) = (0 : Int32)
  · obtain ⟨T8, X8, e8, st8⟩ := getS2 X0 hx hZ hown (host := "") (Or.inl (hw _ (List.mem_of_getElem? (i := 1) rfl))) Via.refl e0 S_EQUAL (g := (mkF m 12 #[.val (.int p1), .val (.int (f0_v6 p1)), .unset, .unset, .unset, .unset, .unset] [])) rfl (hb hby at_12)
    have pre2 : ∀ t, Steps p.tables e below (T8.setTop (mkF m 73 #[.val (.int p1), .val (.int (f0_v6 p1)), .val (.ref w_EQUAL), .unset, .unset, .unset, .unset] [(.int (2 : Int32)), (.int (f0_v6 p1))])) t → Steps p.tables e below (s₁.setTop (entryFrame m #[(.int p1)] maxLocals)) t := by
      intro t k
      refine pre1 t ?_
      show Steps p.tables e below (s₁.setTop (mkF m 9 #[.val (.int p1), .val (.int (f0_v6 p1)), .unset, .unset, .unset, .unset, .unset] [(.int (f0_v6 p1))])) _
      refine XS.ifNo X0.here hx rfl (hb hby at_9) rfl ((if0 _ _).trans (teq hc9).2) ?_
      show Steps p.tables e below (s₁.setTop (mkF m 12 #[.val (.int p1), .val (.int (f0_v6 p1)), .unset, .unset, .unset, .unset, .unset] [])) _
      refine st8 _ ?_
      show Steps p.tables e below (T8.setTop (mkF m 15 #[.val (.int p1), .val (.int (f0_v6 p1)), .unset, .unset, .unset, .unset, .unset] [(.ref w_EQUAL)])) _
      refine XS.astoreN X8.here hx rfl (hb hby at_15) rfl rfl (l' := #[.val (.int p1), .val (.int (f0_v6 p1)), .val (.ref w_EQUAL), .unset, .unset, .unset, .unset]) rfl ?_
      show Steps p.tables e below (T8.setTop (mkF m 16 #[.val (.int p1), .val (.int (f0_v6 p1)), .val (.ref w_EQUAL), .unset, .unset, .unset, .unset] [])) _
      refine XS.goto X8.here hx rfl (pc0 := 16) (pc' := 71) rfl (hb hby at_16) (by decide) (by decide) ?_
      show Steps p.tables e below (T8.setTop (mkF m 71 #[.val (.int p1), .val (.int (f0_v6 p1)), .val (.ref w_EQUAL), .unset, .unset, .unset, .unset] [])) _
      refine XS.iloadN X8.here hx rfl (hb hby at_71) rfl ?_
      show Steps p.tables e below (T8.setTop (mkF m 72 #[.val (.int p1), .val (.int (f0_v6 p1)), .val (.ref w_EQUAL), .unset, .unset, .unset, .unset] [(.int (f0_v6 p1))])) _
      refine XS.iconst X8.here hx rfl (hb hby at_72) ?_
      exact k
    have pre3 : ∀ t, Steps p.tables e below (T8.setTop (mkF m 81 #[.val (.int p1), .val (.int (f0_v6 p1)), .val (.ref w_EQUAL), .unset, .unset, .unset, .unset] [(.int (f0_s0_81 p1))])) t → Steps p.tables e below (s₁.setTop (entryFrame m #[(.int p1)] maxLocals)) t := by
      intro t k
      by_cases hc73 : (f0_v6 p1) < (2 : Int32)
      · have eq4 := (show (f0_s0_81 p1) = (0 : Int32) from by unfold f0_s0_81; simp only [if_pos hc73])
        try rw [eq4] at k
        refine pre2 t ?_
        show Steps p.tables e below (T8.setTop (mkF m 73 #[.val (.int p1), .val (.int (f0_v6 p1)), .val (.ref w_EQUAL), .unset, .unset, .unset, .unset] [(.int (2 : Int32)), (.int (f0_v6 p1))])) _
        refine XS.icmpYes X8.here hx rfl (pc0 := 73) (pc' := 80) rfl (hb hby at_73) rfl (tlt hc73).1 (by decide) (by decide) ?_
        show Steps p.tables e below (T8.setTop (mkF m 80 #[.val (.int p1), .val (.int (f0_v6 p1)), .val (.ref w_EQUAL), .unset, .unset, .unset, .unset] [])) _
        refine XS.iconst X8.here hx rfl (hb hby at_80) ?_
        exact k
      · have eq5 := (show (f0_s0_81 p1) = (1 : Int32) from by unfold f0_s0_81; simp only [if_neg hc73])
        try rw [eq5] at k
        refine pre2 t ?_
        show Steps p.tables e below (T8.setTop (mkF m 73 #[.val (.int p1), .val (.int (f0_v6 p1)), .val (.ref w_EQUAL), .unset, .unset, .unset, .unset] [(.int (2 : Int32)), (.int (f0_v6 p1))])) _
        refine XS.icmpNo X8.here hx rfl (hb hby at_73) rfl (flt hc73).1 ?_
        show Steps p.tables e below (T8.setTop (mkF m 76 #[.val (.int p1), .val (.int (f0_v6 p1)), .val (.ref w_EQUAL), .unset, .unset, .unset, .unset] [])) _
        refine XS.iconst X8.here hx rfl (hb hby at_76) ?_
        show Steps p.tables e below (T8.setTop (mkF m 77 #[.val (.int p1), .val (.int (f0_v6 p1)), .val (.ref w_EQUAL), .unset, .unset, .unset, .unset] [(.int (1 : Int32))])) _
        refine XS.goto X8.here hx rfl (pc0 := 77) (pc' := 81) rfl (hb hby at_77) (by decide) (by decide) ?_
        exact k
    obtain ⟨cq9, kq9, q9a, q9b, q9c⟩ := isOf hZ e8 E_w_EQUAL
    obtain ⟨_, _, ⟨T9, L9, k9, n9⟩, -, X9, ⟨Lc9, hQ9, l9, y9, z9⟩, st9⟩ := X8.virtualBack hx (y := (⟨"com/example/inline_monitor/inlinemonitor/model/Guard$Relation", "symbol", "()Ljava/lang/String;"⟩ : MethodName)) (z := (⟨"com/example/inline_monitor/inlinemonitor/model/Guard$Relation", "symbol", "()Ljava/lang/String;"⟩ : MethodName)) hown (mvT hZ (hw _ (List.mem_of_getElem? (i := 4) rfl))) (mvT hZ (hw _ (List.mem_of_getElem? (i := 5) rfl))) (notFace_of_selects (args := #[]) (mvT hZ (hw _ (List.mem_of_getElem? (i := 7) rfl)))) (mvT hZ (hw _ (List.mem_of_getElem? (i := 7) rfl))) (mvT hZ (hw _ (List.mem_of_getElem? (i := 6) rfl))) (by decide) (backOf (W := 0) (rm1 l Z a0 hw [] w_EQUAL y_EQUAL h0 n0 Z0 F_symbol_w_EQUAL) hZ (hw _ (List.mem_of_getElem? (i := 8) rfl)) (hw _ (List.mem_of_getElem? (i := 2) rfl)) (by decide) (by decide)) q9a q9c (g := (mkF m 83 #[.val (.int p1), .val (.int (f0_v6 p1)), .val (.ref w_EQUAL), .val (.int (f0_s0_81 p1)), .unset, .unset, .unset] [(.ref w_EQUAL)])) rfl (by rw [hml]; rfl) (Steps.refl _) (argsL := []) (rest := []) (lenOf pd_4 rfl) rfl (by show 2 * 0 + _ ≤ _; exact Nat.le_of_eq rfl) (hb hby at_83) (fun _ _ => ⟨rfl, e8, (by decide : 0 + 0 ≤ _), (by decide : 0 + 0 ≤ _)⟩)
    dsimp only [Pt.U, Pt.locs, Pt.cells, Pt.slots] at X9 l9 y9 z9 st9 hQ9
    subst l9 y9 z9
    obtain ⟨rfl, N9q, e9⟩ := hQ9
    have N9 := Fr.app N0 N9q
    obtain ⟨cq10, kq10, q10a, q10b, q10c⟩ := isOf hZ e9 E_y_EQUAL
    obtain ⟨_, _, ⟨T10, L10, k10, n10⟩, -, X10, ⟨Lc10, hQ10, l10, y10, z10⟩, st10⟩ := X9.virtualBack hx (y := (⟨"java/lang/String", "charAt", "(I)C"⟩ : MethodName)) (z := (⟨"java/lang/String", "charAt", "(I)C"⟩ : MethodName)) hown (mvT hZ (hw _ (List.mem_of_getElem? (i := 11) rfl))) (mvT hZ (hw _ (List.mem_of_getElem? (i := 12) rfl))) (notFace_of_selects (args := #[]) (mvT hZ (hw _ (List.mem_of_getElem? (i := 14) rfl)))) (mvT hZ (hw _ (List.mem_of_getElem? (i := 14) rfl))) (mvT hZ (hw _ (List.mem_of_getElem? (i := 13) rfl))) (by decide) (backOf (W := 0) (rm2 l Z a0 hw [] y_EQUAL (0 : Int32) w_CS k_EQUAL v_EQUAL z_v_EQUAL c_v_EQUAL w_SIO h0 n0 Z0 E_y_EQUAL S_COMPACT_STRINGS hcs F_coder_y_EQUAL hk_EQUAL F_value_y_EQUAL V_v_EQUAL S_SIOOBE_FORMATTER hcat ⟨by decide, hl_EQUAL⟩) hZ (hw _ (List.mem_of_getElem? (i := 16) rfl)) (hw _ (List.mem_of_getElem? (i := 15) rfl)) (by decide) (by decide)) q10a q10c (g := (mkF m 91 #[.val (.int p1), .val (.int (f0_v6 p1)), .val (.ref w_EQUAL), .val (.int (f0_s0_81 p1)), .val (.ref y_EQUAL), .unset, .unset] [(.int (0 : Int32)), (.ref y_EQUAL)])) rfl (by rw [hml]; rfl) (Steps.refl _) (argsL := [(.int (0 : Int32))]) (rest := []) (lenOf pd_5 rfl) rfl (by show 2 * 0 + _ ≤ _; exact Nat.le_of_eq rfl) (hb hby at_91) (fun _ _ => ⟨rfl, e9, (by decide : 0 + 0 ≤ _), (by decide : 0 + 0 ≤ _)⟩)
    dsimp only [Pt.U, Pt.locs, Pt.cells, Pt.slots] at X10 l10 y10 z10 st10 hQ10
    subst l10 y10 z10
    obtain ⟨rfl, N10q, e10⟩ := hQ10
    have N10 := Fr.app N9 N10q
    have pre6 : ∀ t, Steps p.tables e below (T10.setTop (mkF m 100 #[.val (.int p1), .val (.int (f0_v6 p1)), .val (.ref w_EQUAL), .val (.int (f0_s0_81 p1)), .val (.ref y_EQUAL), .val (.int (f2 y_EQUAL (0 : Int32) w_CS k_EQUAL v_EQUAL z_v_EQUAL c_v_EQUAL)), .unset] [(.int (60 : Int32)), (.int (f2 y_EQUAL (0 : Int32) w_CS k_EQUAL v_EQUAL z_v_EQUAL c_v_EQUAL))])) t → Steps p.tables e below (s₁.setTop (entryFrame m #[(.int p1)] maxLocals)) t := by
      intro t k
      refine pre3 t ?_
      show Steps p.tables e below (T8.setTop (mkF m 81 #[.val (.int p1), .val (.int (f0_v6 p1)), .val (.ref w_EQUAL), .unset, .unset, .unset, .unset] [(.int (f0_s0_81 p1))])) _
      refine XS.istoreN X8.here hx rfl (hb hby at_81) rfl (l' := #[.val (.int p1), .val (.int (f0_v6 p1)), .val (.ref w_EQUAL), .val (.int (f0_s0_81 p1)), .unset, .unset, .unset]) rfl ?_
      show Steps p.tables e below (T8.setTop (mkF m 82 #[.val (.int p1), .val (.int (f0_v6 p1)), .val (.ref w_EQUAL), .val (.int (f0_s0_81 p1)), .unset, .unset, .unset] [])) _
      refine XS.aloadN X8.here hx rfl (hb hby at_82) rfl rfl ?_
      show Steps p.tables e below (T8.setTop (mkF m 83 #[.val (.int p1), .val (.int (f0_v6 p1)), .val (.ref w_EQUAL), .val (.int (f0_s0_81 p1)), .unset, .unset, .unset] [(.ref w_EQUAL)])) _
      refine st9.trans ?_
      show Steps p.tables e below (T9.setTop (mkF m 86 #[.val (.int p1), .val (.int (f0_v6 p1)), .val (.ref w_EQUAL), .val (.int (f0_s0_81 p1)), .unset, .unset, .unset] [(.ref y_EQUAL)])) _
      refine XS.astore X9.here hx rfl (hb hby at_86) rfl rfl (l' := #[.val (.int p1), .val (.int (f0_v6 p1)), .val (.ref w_EQUAL), .val (.int (f0_s0_81 p1)), .val (.ref y_EQUAL), .unset, .unset]) rfl ?_
      show Steps p.tables e below (T9.setTop (mkF m 88 #[.val (.int p1), .val (.int (f0_v6 p1)), .val (.ref w_EQUAL), .val (.int (f0_s0_81 p1)), .val (.ref y_EQUAL), .unset, .unset] [])) _
      refine XS.aload X9.here hx rfl (hb hby at_88) rfl rfl ?_
      show Steps p.tables e below (T9.setTop (mkF m 90 #[.val (.int p1), .val (.int (f0_v6 p1)), .val (.ref w_EQUAL), .val (.int (f0_s0_81 p1)), .val (.ref y_EQUAL), .unset, .unset] [(.ref y_EQUAL)])) _
      refine XS.iconst X9.here hx rfl (hb hby at_90) ?_
      show Steps p.tables e below (T9.setTop (mkF m 91 #[.val (.int p1), .val (.int (f0_v6 p1)), .val (.ref w_EQUAL), .val (.int (f0_s0_81 p1)), .val (.ref y_EQUAL), .unset, .unset] [(.int (0 : Int32)), (.ref y_EQUAL)])) _
      refine st10.trans ?_
      show Steps p.tables e below (T10.setTop (mkF m 94 #[.val (.int p1), .val (.int (f0_v6 p1)), .val (.ref w_EQUAL), .val (.int (f0_s0_81 p1)), .val (.ref y_EQUAL), .unset, .unset] [(.int (f2 y_EQUAL (0 : Int32) w_CS k_EQUAL v_EQUAL z_v_EQUAL c_v_EQUAL))])) _
      refine XS.istore X10.here hx rfl (hb hby at_94) rfl (l' := #[.val (.int p1), .val (.int (f0_v6 p1)), .val (.ref w_EQUAL), .val (.int (f0_s0_81 p1)), .val (.ref y_EQUAL), .val (.int (f2 y_EQUAL (0 : Int32) w_CS k_EQUAL v_EQUAL z_v_EQUAL c_v_EQUAL)), .unset]) rfl ?_
      show Steps p.tables e below (T10.setTop (mkF m 96 #[.val (.int p1), .val (.int (f0_v6 p1)), .val (.ref w_EQUAL), .val (.int (f0_s0_81 p1)), .val (.ref y_EQUAL), .val (.int (f2 y_EQUAL (0 : Int32) w_CS k_EQUAL v_EQUAL z_v_EQUAL c_v_EQUAL)), .unset] [])) _
      refine XS.iload X10.here hx rfl (hb hby at_96) rfl ?_
      show Steps p.tables e below (T10.setTop (mkF m 98 #[.val (.int p1), .val (.int (f0_v6 p1)), .val (.ref w_EQUAL), .val (.int (f0_s0_81 p1)), .val (.ref y_EQUAL), .val (.int (f2 y_EQUAL (0 : Int32) w_CS k_EQUAL v_EQUAL z_v_EQUAL c_v_EQUAL)), .unset] [(.int (f2 y_EQUAL (0 : Int32) w_CS k_EQUAL v_EQUAL z_v_EQUAL c_v_EQUAL))])) _
      refine XS.bipush X10.here hx rfl (hb hby at_98) ?_
      exact k
    have pre7 : ∀ t, Steps p.tables e below (T10.setTop (mkF m 115 #[.val (.int p1), .val (.int (f0_v6 p1)), .val (.ref w_EQUAL), .val (.int (f0_s0_81 p1)), .val (.ref y_EQUAL), .val (.int (f2 y_EQUAL (0 : Int32) w_CS k_EQUAL v_EQUAL z_v_EQUAL c_v_EQUAL)), .unset] [(.int (f0_s0_115 w_CS y_EQUAL k_EQUAL v_EQUAL z_v_EQUAL c_v_EQUAL))])) t → Steps p.tables e below (s₁.setTop (entryFrame m #[(.int p1)] maxLocals)) t := by
      intro t k
      by_cases hc100 : (f2 y_EQUAL (0 : Int32) w_CS k_EQUAL v_EQUAL z_v_EQUAL c_v_EQUAL) = (60 : Int32)
      · have eq8 := (show (f0_s0_115 w_CS y_EQUAL k_EQUAL v_EQUAL z_v_EQUAL c_v_EQUAL) = (1 : Int32) from by unfold f0_s0_115; simp only [if_pos hc100])
        try rw [eq8] at k
        refine pre6 t ?_
        show Steps p.tables e below (T10.setTop (mkF m 100 #[.val (.int p1), .val (.int (f0_v6 p1)), .val (.ref w_EQUAL), .val (.int (f0_s0_81 p1)), .val (.ref y_EQUAL), .val (.int (f2 y_EQUAL (0 : Int32) w_CS k_EQUAL v_EQUAL z_v_EQUAL c_v_EQUAL)), .unset] [(.int (60 : Int32)), (.int (f2 y_EQUAL (0 : Int32) w_CS k_EQUAL v_EQUAL z_v_EQUAL c_v_EQUAL))])) _
        refine XS.icmpYes X10.here hx rfl (pc0 := 100) (pc' := 110) rfl (hb hby at_100) rfl (teq hc100).1 (by decide) (by decide) ?_
        show Steps p.tables e below (T10.setTop (mkF m 110 #[.val (.int p1), .val (.int (f0_v6 p1)), .val (.ref w_EQUAL), .val (.int (f0_s0_81 p1)), .val (.ref y_EQUAL), .val (.int (f2 y_EQUAL (0 : Int32) w_CS k_EQUAL v_EQUAL z_v_EQUAL c_v_EQUAL)), .unset] [])) _
        refine XS.iconst X10.here hx rfl (hb hby at_110) ?_
        show Steps p.tables e below (T10.setTop (mkF m 111 #[.val (.int p1), .val (.int (f0_v6 p1)), .val (.ref w_EQUAL), .val (.int (f0_s0_81 p1)), .val (.ref y_EQUAL), .val (.int (f2 y_EQUAL (0 : Int32) w_CS k_EQUAL v_EQUAL z_v_EQUAL c_v_EQUAL)), .unset] [(.int (1 : Int32))])) _
        refine XS.goto X10.here hx rfl (pc0 := 111) (pc' := 115) rfl (hb hby at_111) (by decide) (by decide) ?_
        exact k
      · have pre9 : ∀ t, Steps p.tables e below (T10.setTop (mkF m 107 #[.val (.int p1), .val (.int (f0_v6 p1)), .val (.ref w_EQUAL), .val (.int (f0_s0_81 p1)), .val (.ref y_EQUAL), .val (.int (f2 y_EQUAL (0 : Int32) w_CS k_EQUAL v_EQUAL z_v_EQUAL c_v_EQUAL)), .unset] [(.int (62 : Int32)), (.int (f2 y_EQUAL (0 : Int32) w_CS k_EQUAL v_EQUAL z_v_EQUAL c_v_EQUAL))])) t → Steps p.tables e below (s₁.setTop (entryFrame m #[(.int p1)] maxLocals)) t := by
          intro t k
          refine pre6 t ?_
          show Steps p.tables e below (T10.setTop (mkF m 100 #[.val (.int p1), .val (.int (f0_v6 p1)), .val (.ref w_EQUAL), .val (.int (f0_s0_81 p1)), .val (.ref y_EQUAL), .val (.int (f2 y_EQUAL (0 : Int32) w_CS k_EQUAL v_EQUAL z_v_EQUAL c_v_EQUAL)), .unset] [(.int (60 : Int32)), (.int (f2 y_EQUAL (0 : Int32) w_CS k_EQUAL v_EQUAL z_v_EQUAL c_v_EQUAL))])) _
          refine XS.icmpNo X10.here hx rfl (hb hby at_100) rfl (feq hc100).1 ?_
          show Steps p.tables e below (T10.setTop (mkF m 103 #[.val (.int p1), .val (.int (f0_v6 p1)), .val (.ref w_EQUAL), .val (.int (f0_s0_81 p1)), .val (.ref y_EQUAL), .val (.int (f2 y_EQUAL (0 : Int32) w_CS k_EQUAL v_EQUAL z_v_EQUAL c_v_EQUAL)), .unset] [])) _
          refine XS.iload X10.here hx rfl (hb hby at_103) rfl ?_
          show Steps p.tables e below (T10.setTop (mkF m 105 #[.val (.int p1), .val (.int (f0_v6 p1)), .val (.ref w_EQUAL), .val (.int (f0_s0_81 p1)), .val (.ref y_EQUAL), .val (.int (f2 y_EQUAL (0 : Int32) w_CS k_EQUAL v_EQUAL z_v_EQUAL c_v_EQUAL)), .unset] [(.int (f2 y_EQUAL (0 : Int32) w_CS k_EQUAL v_EQUAL z_v_EQUAL c_v_EQUAL))])) _
          refine XS.bipush X10.here hx rfl (hb hby at_105) ?_
          exact k
        by_cases hc107 : (f2 y_EQUAL (0 : Int32) w_CS k_EQUAL v_EQUAL z_v_EQUAL c_v_EQUAL) = (62 : Int32)
        · have eq10 := (show (f0_s0_115 w_CS y_EQUAL k_EQUAL v_EQUAL z_v_EQUAL c_v_EQUAL) = (1 : Int32) from by unfold f0_s0_115; simp only [if_neg hc100, if_pos hc107])
          try rw [eq10] at k
          refine pre9 t ?_
          show Steps p.tables e below (T10.setTop (mkF m 107 #[.val (.int p1), .val (.int (f0_v6 p1)), .val (.ref w_EQUAL), .val (.int (f0_s0_81 p1)), .val (.ref y_EQUAL), .val (.int (f2 y_EQUAL (0 : Int32) w_CS k_EQUAL v_EQUAL z_v_EQUAL c_v_EQUAL)), .unset] [(.int (62 : Int32)), (.int (f2 y_EQUAL (0 : Int32) w_CS k_EQUAL v_EQUAL z_v_EQUAL c_v_EQUAL))])) _
          refine XS.icmpNo X10.here hx rfl (hb hby at_107) rfl (teq hc107).2 ?_
          show Steps p.tables e below (T10.setTop (mkF m 110 #[.val (.int p1), .val (.int (f0_v6 p1)), .val (.ref w_EQUAL), .val (.int (f0_s0_81 p1)), .val (.ref y_EQUAL), .val (.int (f2 y_EQUAL (0 : Int32) w_CS k_EQUAL v_EQUAL z_v_EQUAL c_v_EQUAL)), .unset] [])) _
          refine XS.iconst X10.here hx rfl (hb hby at_110) ?_
          show Steps p.tables e below (T10.setTop (mkF m 111 #[.val (.int p1), .val (.int (f0_v6 p1)), .val (.ref w_EQUAL), .val (.int (f0_s0_81 p1)), .val (.ref y_EQUAL), .val (.int (f2 y_EQUAL (0 : Int32) w_CS k_EQUAL v_EQUAL z_v_EQUAL c_v_EQUAL)), .unset] [(.int (1 : Int32))])) _
          refine XS.goto X10.here hx rfl (pc0 := 111) (pc' := 115) rfl (hb hby at_111) (by decide) (by decide) ?_
          exact k
        · have eq11 := (show (f0_s0_115 w_CS y_EQUAL k_EQUAL v_EQUAL z_v_EQUAL c_v_EQUAL) = (0 : Int32) from by unfold f0_s0_115; simp only [if_neg hc100, if_neg hc107])
          try rw [eq11] at k
          refine pre9 t ?_
          show Steps p.tables e below (T10.setTop (mkF m 107 #[.val (.int p1), .val (.int (f0_v6 p1)), .val (.ref w_EQUAL), .val (.int (f0_s0_81 p1)), .val (.ref y_EQUAL), .val (.int (f2 y_EQUAL (0 : Int32) w_CS k_EQUAL v_EQUAL z_v_EQUAL c_v_EQUAL)), .unset] [(.int (62 : Int32)), (.int (f2 y_EQUAL (0 : Int32) w_CS k_EQUAL v_EQUAL z_v_EQUAL c_v_EQUAL))])) _
          refine XS.icmpYes X10.here hx rfl (pc0 := 107) (pc' := 114) rfl (hb hby at_107) rfl (feq hc107).2 (by decide) (by decide) ?_
          show Steps p.tables e below (T10.setTop (mkF m 114 #[.val (.int p1), .val (.int (f0_v6 p1)), .val (.ref w_EQUAL), .val (.int (f0_s0_81 p1)), .val (.ref y_EQUAL), .val (.int (f2 y_EQUAL (0 : Int32) w_CS k_EQUAL v_EQUAL z_v_EQUAL c_v_EQUAL)), .unset] [])) _
          refine XS.iconst X10.here hx rfl (hb hby at_114) ?_
          exact k
    obtain ⟨cq11, kq11, q11a, q11b, q11c⟩ := isOf hZ e10 E_w_EQUAL
    obtain ⟨_, _, ⟨T11, L11, k11, n11⟩, -, X11, ⟨Lc11, hQ11, l11, y11, z11⟩, st11⟩ := X10.virtualBack hx (y := (⟨"com/example/inline_monitor/inlinemonitor/model/Guard$Relation", "isOrdering", "()Z"⟩ : MethodName)) (z := (⟨"com/example/inline_monitor/inlinemonitor/model/Guard$Relation", "isOrdering", "()Z"⟩ : MethodName)) hown (mvT hZ (hw _ (List.mem_of_getElem? (i := 39) rfl))) (mvT hZ (hw _ (List.mem_of_getElem? (i := 40) rfl))) (notFace_of_selects (args := #[]) (mvT hZ (hw _ (List.mem_of_getElem? (i := 42) rfl)))) (mvT hZ (hw _ (List.mem_of_getElem? (i := 42) rfl))) (mvT hZ (hw _ (List.mem_of_getElem? (i := 41) rfl))) (by decide) (backOf (W := 0) (rm7 l Z a0 hw [] w_EQUAL w_EQUAL w_NOT_EQUAL h0 n0 Z0 S_EQUAL S_NOT_EQUAL) hZ (hw _ (List.mem_of_getElem? (i := 43) rfl)) (hw _ (List.mem_of_getElem? (i := 2) rfl)) (by decide) (by decide)) q11a q11c (g := (mkF m 118 #[.val (.int p1), .val (.int (f0_v6 p1)), .val (.ref w_EQUAL), .val (.int (f0_s0_81 p1)), .val (.ref y_EQUAL), .val (.int (f2 y_EQUAL (0 : Int32) w_CS k_EQUAL v_EQUAL z_v_EQUAL c_v_EQUAL)), .val (.int (f0_s0_115 w_CS y_EQUAL k_EQUAL v_EQUAL z_v_EQUAL c_v_EQUAL))] [(.ref w_EQUAL)])) rfl (by rw [hml]; rfl) (Steps.refl _) (argsL := []) (rest := []) (lenOf pd_2 rfl) rfl (by show 2 * 0 + _ ≤ _; exact Nat.le_of_eq rfl) (hb hby at_118) (fun _ _ => ⟨rfl, e10, (by decide : 0 + 0 ≤ _), (by decide : 0 + 0 ≤ _)⟩)
    dsimp only [Pt.U, Pt.locs, Pt.cells, Pt.slots] at X11 l11 y11 z11 st11 hQ11
    subst l11 y11 z11
    obtain ⟨rfl, N11q, e11⟩ := hQ11
    have N11 := Fr.app N10 N11q
    have pre12 : ∀ t, Steps p.tables e below (T11.setTop (mkF m 122 #[.val (.int p1), .val (.int (f0_v6 p1)), .val (.ref w_EQUAL), .val (.int (f0_s0_81 p1)), .val (.ref y_EQUAL), .val (.int (f2 y_EQUAL (0 : Int32) w_CS k_EQUAL v_EQUAL z_v_EQUAL c_v_EQUAL)), .val (.int (f0_s0_115 w_CS y_EQUAL k_EQUAL v_EQUAL z_v_EQUAL c_v_EQUAL))] [(.int (f0_s0_81 p1)), (.int (f7 w_EQUAL w_EQUAL w_NOT_EQUAL))])) t → Steps p.tables e below (s₁.setTop (entryFrame m #[(.int p1)] maxLocals)) t := by
      intro t k
      refine pre7 t ?_
      show Steps p.tables e below (T10.setTop (mkF m 115 #[.val (.int p1), .val (.int (f0_v6 p1)), .val (.ref w_EQUAL), .val (.int (f0_s0_81 p1)), .val (.ref y_EQUAL), .val (.int (f2 y_EQUAL (0 : Int32) w_CS k_EQUAL v_EQUAL z_v_EQUAL c_v_EQUAL)), .unset] [(.int (f0_s0_115 w_CS y_EQUAL k_EQUAL v_EQUAL z_v_EQUAL c_v_EQUAL))])) _
      refine XS.istore X10.here hx rfl (hb hby at_115) rfl (l' := #[.val (.int p1), .val (.int (f0_v6 p1)), .val (.ref w_EQUAL), .val (.int (f0_s0_81 p1)), .val (.ref y_EQUAL), .val (.int (f2 y_EQUAL (0 : Int32) w_CS k_EQUAL v_EQUAL z_v_EQUAL c_v_EQUAL)), .val (.int (f0_s0_115 w_CS y_EQUAL k_EQUAL v_EQUAL z_v_EQUAL c_v_EQUAL))]) rfl ?_
      show Steps p.tables e below (T10.setTop (mkF m 117 #[.val (.int p1), .val (.int (f0_v6 p1)), .val (.ref w_EQUAL), .val (.int (f0_s0_81 p1)), .val (.ref y_EQUAL), .val (.int (f2 y_EQUAL (0 : Int32) w_CS k_EQUAL v_EQUAL z_v_EQUAL c_v_EQUAL)), .val (.int (f0_s0_115 w_CS y_EQUAL k_EQUAL v_EQUAL z_v_EQUAL c_v_EQUAL))] [])) _
      refine XS.aloadN X10.here hx rfl (hb hby at_117) rfl rfl ?_
      show Steps p.tables e below (T10.setTop (mkF m 118 #[.val (.int p1), .val (.int (f0_v6 p1)), .val (.ref w_EQUAL), .val (.int (f0_s0_81 p1)), .val (.ref y_EQUAL), .val (.int (f2 y_EQUAL (0 : Int32) w_CS k_EQUAL v_EQUAL z_v_EQUAL c_v_EQUAL)), .val (.int (f0_s0_115 w_CS y_EQUAL k_EQUAL v_EQUAL z_v_EQUAL c_v_EQUAL))] [(.ref w_EQUAL)])) _
      refine st11.trans ?_
      show Steps p.tables e below (T11.setTop (mkF m 121 #[.val (.int p1), .val (.int (f0_v6 p1)), .val (.ref w_EQUAL), .val (.int (f0_s0_81 p1)), .val (.ref y_EQUAL), .val (.int (f2 y_EQUAL (0 : Int32) w_CS k_EQUAL v_EQUAL z_v_EQUAL c_v_EQUAL)), .val (.int (f0_s0_115 w_CS y_EQUAL k_EQUAL v_EQUAL z_v_EQUAL c_v_EQUAL))] [(.int (f7 w_EQUAL w_EQUAL w_NOT_EQUAL))])) _
      refine XS.iloadN X11.here hx rfl (hb hby at_121) rfl ?_
      exact k
    by_cases hc122 : (f7 w_EQUAL w_EQUAL w_NOT_EQUAL) = (f0_s0_81 p1)
    · have pre13 : ∀ t, Steps p.tables e below (T11.setTop (mkF m 128 #[.val (.int p1), .val (.int (f0_v6 p1)), .val (.ref w_EQUAL), .val (.int (f0_s0_81 p1)), .val (.ref y_EQUAL), .val (.int (f2 y_EQUAL (0 : Int32) w_CS k_EQUAL v_EQUAL z_v_EQUAL c_v_EQUAL)), .val (.int (f0_s0_115 w_CS y_EQUAL k_EQUAL v_EQUAL z_v_EQUAL c_v_EQUAL))] [(.int (f0_s0_115 w_CS y_EQUAL k_EQUAL v_EQUAL z_v_EQUAL c_v_EQUAL)), (.int (f0_s0_81 p1))])) t → Steps p.tables e below (s₁.setTop (entryFrame m #[(.int p1)] maxLocals)) t := by
        intro t k
        refine pre12 t ?_
        show Steps p.tables e below (T11.setTop (mkF m 122 #[.val (.int p1), .val (.int (f0_v6 p1)), .val (.ref w_EQUAL), .val (.int (f0_s0_81 p1)), .val (.ref y_EQUAL), .val (.int (f2 y_EQUAL (0 : Int32) w_CS k_EQUAL v_EQUAL z_v_EQUAL c_v_EQUAL)), .val (.int (f0_s0_115 w_CS y_EQUAL k_EQUAL v_EQUAL z_v_EQUAL c_v_EQUAL))] [(.int (f0_s0_81 p1)), (.int (f7 w_EQUAL w_EQUAL w_NOT_EQUAL))])) _
        refine XS.icmpNo X11.here hx rfl (hb hby at_122) rfl (teq hc122).2 ?_
        show Steps p.tables e below (T11.setTop (mkF m 125 #[.val (.int p1), .val (.int (f0_v6 p1)), .val (.ref w_EQUAL), .val (.int (f0_s0_81 p1)), .val (.ref y_EQUAL), .val (.int (f2 y_EQUAL (0 : Int32) w_CS k_EQUAL v_EQUAL z_v_EQUAL c_v_EQUAL)), .val (.int (f0_s0_115 w_CS y_EQUAL k_EQUAL v_EQUAL z_v_EQUAL c_v_EQUAL))] [])) _
        refine XS.iloadN X11.here hx rfl (hb hby at_125) rfl ?_
        show Steps p.tables e below (T11.setTop (mkF m 126 #[.val (.int p1), .val (.int (f0_v6 p1)), .val (.ref w_EQUAL), .val (.int (f0_s0_81 p1)), .val (.ref y_EQUAL), .val (.int (f2 y_EQUAL (0 : Int32) w_CS k_EQUAL v_EQUAL z_v_EQUAL c_v_EQUAL)), .val (.int (f0_s0_115 w_CS y_EQUAL k_EQUAL v_EQUAL z_v_EQUAL c_v_EQUAL))] [(.int (f0_s0_81 p1))])) _
        refine XS.iload X11.here hx rfl (hb hby at_126) rfl ?_
        exact k
      by_cases hc128 : (f0_s0_81 p1) = (f0_s0_115 w_CS y_EQUAL k_EQUAL v_EQUAL z_v_EQUAL c_v_EQUAL)
      · have eq14 : (f0 p1 w_EQUAL w_NOT_EQUAL w_LESS w_LESS_OR_EQUAL w_GREATER w_GREATER_OR_EQUAL w_CS y_EQUAL k_EQUAL v_EQUAL z_v_EQUAL c_v_EQUAL y_NOT_EQUAL k_NOT_EQUAL v_NOT_EQUAL z_v_NOT_EQUAL c_v_NOT_EQUAL y_LESS k_LESS v_LESS z_v_LESS c_v_LESS y_LESS_OR_EQUAL k_LESS_OR_EQUAL v_LESS_OR_EQUAL z_v_LESS_OR_EQUAL c_v_LESS_OR_EQUAL y_GREATER k_GREATER v_GREATER z_v_GREATER c_v_GREATER y_GREATER_OR_EQUAL k_GREATER_OR_EQUAL v_GREATER_OR_EQUAL z_v_GREATER_OR_EQUAL c_v_GREATER_OR_EQUAL) = (1 : Int32) := by unfold f0; simp only [if_pos hc9, if_pos hc122, if_pos hc128]
        obtain ⟨fs, hr, hrun, hended, hW, hsame⟩ := X11.leave (v := some (.int (1 : Int32))) (fun h => by rw [Bd.returns] at h; cases h)
        refine ⟨_, _, pre13 _ ?_, hrun, hended, _, _, rfl, ?_, ⟨_, rfl⟩, hW, hsame.mono (by decide) (by decide)⟩
        · show Steps p.tables e below (T11.setTop (mkF m 128 #[.val (.int p1), .val (.int (f0_v6 p1)), .val (.ref w_EQUAL), .val (.int (f0_s0_81 p1)), .val (.ref y_EQUAL), .val (.int (f2 y_EQUAL (0 : Int32) w_CS k_EQUAL v_EQUAL z_v_EQUAL c_v_EQUAL)), .val (.int (f0_s0_115 w_CS y_EQUAL k_EQUAL v_EQUAL z_v_EQUAL c_v_EQUAL))] [(.int (f0_s0_115 w_CS y_EQUAL k_EQUAL v_EQUAL z_v_EQUAL c_v_EQUAL)), (.int (f0_s0_81 p1))])) _
          refine XS.icmpNo X11.here hx rfl (hb hby at_128) rfl (teq hc128).2 ?_
          show Steps p.tables e below (T11.setTop (mkF m 131 #[.val (.int p1), .val (.int (f0_v6 p1)), .val (.ref w_EQUAL), .val (.int (f0_s0_81 p1)), .val (.ref y_EQUAL), .val (.int (f2 y_EQUAL (0 : Int32) w_CS k_EQUAL v_EQUAL z_v_EQUAL c_v_EQUAL)), .val (.int (f0_s0_115 w_CS y_EQUAL k_EQUAL v_EQUAL z_v_EQUAL c_v_EQUAL))] [])) _
          refine XS.iconst X11.here hx rfl (hb hby at_131) ?_
          show Steps p.tables e below (T11.setTop (mkF m 132 #[.val (.int p1), .val (.int (f0_v6 p1)), .val (.ref w_EQUAL), .val (.int (f0_s0_81 p1)), .val (.ref y_EQUAL), .val (.int (f2 y_EQUAL (0 : Int32) w_CS k_EQUAL v_EQUAL z_v_EQUAL c_v_EQUAL)), .val (.int (f0_s0_115 w_CS y_EQUAL k_EQUAL v_EQUAL z_v_EQUAL c_v_EQUAL))] [(.int (1 : Int32))])) _
          refine XS.goto X11.here hx rfl (pc0 := 132) (pc' := 136) rfl (hb hby at_132) (by decide) (by decide) ?_
          show Steps p.tables e below (T11.setTop (mkF m 136 #[.val (.int p1), .val (.int (f0_v6 p1)), .val (.ref w_EQUAL), .val (.int (f0_s0_81 p1)), .val (.ref y_EQUAL), .val (.int (f2 y_EQUAL (0 : Int32) w_CS k_EQUAL v_EQUAL z_v_EQUAL c_v_EQUAL)), .val (.int (f0_s0_115 w_CS y_EQUAL k_EQUAL v_EQUAL z_v_EQUAL c_v_EQUAL))] [(.int (1 : Int32))])) _
          exact retN X11 hx (t := .boolean) Bd.returns (by simp) (hb hby at_136) hr
        · show Q0 Z p1 w_EQUAL w_NOT_EQUAL w_LESS w_LESS_OR_EQUAL w_GREATER w_GREATER_OR_EQUAL w_CS w_SIO y_EQUAL k_EQUAL v_EQUAL z_v_EQUAL c_v_EQUAL y_NOT_EQUAL k_NOT_EQUAL v_NOT_EQUAL z_v_NOT_EQUAL c_v_NOT_EQUAL y_LESS k_LESS v_LESS z_v_LESS c_v_LESS y_LESS_OR_EQUAL k_LESS_OR_EQUAL v_LESS_OR_EQUAL z_v_LESS_OR_EQUAL c_v_LESS_OR_EQUAL y_GREATER k_GREATER v_GREATER z_v_GREATER c_v_GREATER y_GREATER_OR_EQUAL k_GREATER_OR_EQUAL v_GREATER_OR_EQUAL z_v_GREATER_OR_EQUAL c_v_GREATER_OR_EQUAL h0 n0 _ T11.heap _
          rw [e11]
          exact ⟨by rw [eq14], N11, trivial⟩
      · have eq15 : (f0 p1 w_EQUAL w_NOT_EQUAL w_LESS w_LESS_OR_EQUAL w_GREATER w_GREATER_OR_EQUAL w_CS y_EQUAL k_EQUAL v_EQUAL z_v_EQUAL c_v_EQUAL y_NOT_EQUAL k_NOT_EQUAL v_NOT_EQUAL z_v_NOT_EQUAL c_v_NOT_EQUAL y_LESS k_LESS v_LESS z_v_LESS c_v_LESS y_LESS_OR_EQUAL k_LESS_OR_EQUAL v_LESS_OR_EQUAL z_v_LESS_OR_EQUAL c_v_LESS_OR_EQUAL y_GREATER k_GREATER v_GREATER z_v_GREATER c_v_GREATER y_GREATER_OR_EQUAL k_GREATER_OR_EQUAL v_GREATER_OR_EQUAL z_v_GREATER_OR_EQUAL c_v_GREATER_OR_EQUAL) = (0 : Int32) := by unfold f0; simp only [if_pos hc9, if_pos hc122, if_neg hc128]
        obtain ⟨fs, hr, hrun, hended, hW, hsame⟩ := X11.leave (v := some (.int (0 : Int32))) (fun h => by rw [Bd.returns] at h; cases h)
        refine ⟨_, _, pre13 _ ?_, hrun, hended, _, _, rfl, ?_, ⟨_, rfl⟩, hW, hsame.mono (by decide) (by decide)⟩
        · show Steps p.tables e below (T11.setTop (mkF m 128 #[.val (.int p1), .val (.int (f0_v6 p1)), .val (.ref w_EQUAL), .val (.int (f0_s0_81 p1)), .val (.ref y_EQUAL), .val (.int (f2 y_EQUAL (0 : Int32) w_CS k_EQUAL v_EQUAL z_v_EQUAL c_v_EQUAL)), .val (.int (f0_s0_115 w_CS y_EQUAL k_EQUAL v_EQUAL z_v_EQUAL c_v_EQUAL))] [(.int (f0_s0_115 w_CS y_EQUAL k_EQUAL v_EQUAL z_v_EQUAL c_v_EQUAL)), (.int (f0_s0_81 p1))])) _
          refine XS.icmpYes X11.here hx rfl (pc0 := 128) (pc' := 135) rfl (hb hby at_128) rfl (feq hc128).2 (by decide) (by decide) ?_
          show Steps p.tables e below (T11.setTop (mkF m 135 #[.val (.int p1), .val (.int (f0_v6 p1)), .val (.ref w_EQUAL), .val (.int (f0_s0_81 p1)), .val (.ref y_EQUAL), .val (.int (f2 y_EQUAL (0 : Int32) w_CS k_EQUAL v_EQUAL z_v_EQUAL c_v_EQUAL)), .val (.int (f0_s0_115 w_CS y_EQUAL k_EQUAL v_EQUAL z_v_EQUAL c_v_EQUAL))] [])) _
          refine XS.iconst X11.here hx rfl (hb hby at_135) ?_
          show Steps p.tables e below (T11.setTop (mkF m 136 #[.val (.int p1), .val (.int (f0_v6 p1)), .val (.ref w_EQUAL), .val (.int (f0_s0_81 p1)), .val (.ref y_EQUAL), .val (.int (f2 y_EQUAL (0 : Int32) w_CS k_EQUAL v_EQUAL z_v_EQUAL c_v_EQUAL)), .val (.int (f0_s0_115 w_CS y_EQUAL k_EQUAL v_EQUAL z_v_EQUAL c_v_EQUAL))] [(.int (0 : Int32))])) _
          exact retN X11 hx (t := .boolean) Bd.returns (by simp) (hb hby at_136) hr
        · show Q0 Z p1 w_EQUAL w_NOT_EQUAL w_LESS w_LESS_OR_EQUAL w_GREATER w_GREATER_OR_EQUAL w_CS w_SIO y_EQUAL k_EQUAL v_EQUAL z_v_EQUAL c_v_EQUAL y_NOT_EQUAL k_NOT_EQUAL v_NOT_EQUAL z_v_NOT_EQUAL c_v_NOT_EQUAL y_LESS k_LESS v_LESS z_v_LESS c_v_LESS y_LESS_OR_EQUAL k_LESS_OR_EQUAL v_LESS_OR_EQUAL z_v_LESS_OR_EQUAL c_v_LESS_OR_EQUAL y_GREATER k_GREATER v_GREATER z_v_GREATER c_v_GREATER y_GREATER_OR_EQUAL k_GREATER_OR_EQUAL v_GREATER_OR_EQUAL z_v_GREATER_OR_EQUAL c_v_GREATER_OR_EQUAL h0 n0 _ T11.heap _
          rw [e11]
          exact ⟨by rw [eq15], N11, trivial⟩
    · have eq16 : (f0 p1 w_EQUAL w_NOT_EQUAL w_LESS w_LESS_OR_EQUAL w_GREATER w_GREATER_OR_EQUAL w_CS y_EQUAL k_EQUAL v_EQUAL z_v_EQUAL c_v_EQUAL y_NOT_EQUAL k_NOT_EQUAL v_NOT_EQUAL z_v_NOT_EQUAL c_v_NOT_EQUAL y_LESS k_LESS v_LESS z_v_LESS c_v_LESS y_LESS_OR_EQUAL k_LESS_OR_EQUAL v_LESS_OR_EQUAL z_v_LESS_OR_EQUAL c_v_LESS_OR_EQUAL y_GREATER k_GREATER v_GREATER z_v_GREATER c_v_GREATER y_GREATER_OR_EQUAL k_GREATER_OR_EQUAL v_GREATER_OR_EQUAL z_v_GREATER_OR_EQUAL c_v_GREATER_OR_EQUAL) = (0 : Int32) := by unfold f0; simp only [if_pos hc9, if_neg hc122]
      obtain ⟨fs, hr, hrun, hended, hW, hsame⟩ := X11.leave (v := some (.int (0 : Int32))) (fun h => by rw [Bd.returns] at h; cases h)
      refine ⟨_, _, pre12 _ ?_, hrun, hended, _, _, rfl, ?_, ⟨_, rfl⟩, hW, hsame.mono (by decide) (by decide)⟩
      · show Steps p.tables e below (T11.setTop (mkF m 122 #[.val (.int p1), .val (.int (f0_v6 p1)), .val (.ref w_EQUAL), .val (.int (f0_s0_81 p1)), .val (.ref y_EQUAL), .val (.int (f2 y_EQUAL (0 : Int32) w_CS k_EQUAL v_EQUAL z_v_EQUAL c_v_EQUAL)), .val (.int (f0_s0_115 w_CS y_EQUAL k_EQUAL v_EQUAL z_v_EQUAL c_v_EQUAL))] [(.int (f0_s0_81 p1)), (.int (f7 w_EQUAL w_EQUAL w_NOT_EQUAL))])) _
        refine XS.icmpYes X11.here hx rfl (pc0 := 122) (pc' := 135) rfl (hb hby at_122) rfl (feq hc122).2 (by decide) (by decide) ?_
        show Steps p.tables e below (T11.setTop (mkF m 135 #[.val (.int p1), .val (.int (f0_v6 p1)), .val (.ref w_EQUAL), .val (.int (f0_s0_81 p1)), .val (.ref y_EQUAL), .val (.int (f2 y_EQUAL (0 : Int32) w_CS k_EQUAL v_EQUAL z_v_EQUAL c_v_EQUAL)), .val (.int (f0_s0_115 w_CS y_EQUAL k_EQUAL v_EQUAL z_v_EQUAL c_v_EQUAL))] [])) _
        refine XS.iconst X11.here hx rfl (hb hby at_135) ?_
        show Steps p.tables e below (T11.setTop (mkF m 136 #[.val (.int p1), .val (.int (f0_v6 p1)), .val (.ref w_EQUAL), .val (.int (f0_s0_81 p1)), .val (.ref y_EQUAL), .val (.int (f2 y_EQUAL (0 : Int32) w_CS k_EQUAL v_EQUAL z_v_EQUAL c_v_EQUAL)), .val (.int (f0_s0_115 w_CS y_EQUAL k_EQUAL v_EQUAL z_v_EQUAL c_v_EQUAL))] [(.int (0 : Int32))])) _
        exact retN X11 hx (t := .boolean) Bd.returns (by simp) (hb hby at_136) hr
      · show Q0 Z p1 w_EQUAL w_NOT_EQUAL w_LESS w_LESS_OR_EQUAL w_GREATER w_GREATER_OR_EQUAL w_CS w_SIO y_EQUAL k_EQUAL v_EQUAL z_v_EQUAL c_v_EQUAL y_NOT_EQUAL k_NOT_EQUAL v_NOT_EQUAL z_v_NOT_EQUAL c_v_NOT_EQUAL y_LESS k_LESS v_LESS z_v_LESS c_v_LESS y_LESS_OR_EQUAL k_LESS_OR_EQUAL v_LESS_OR_EQUAL z_v_LESS_OR_EQUAL c_v_LESS_OR_EQUAL y_GREATER k_GREATER v_GREATER z_v_GREATER c_v_GREATER y_GREATER_OR_EQUAL k_GREATER_OR_EQUAL v_GREATER_OR_EQUAL z_v_GREATER_OR_EQUAL c_v_GREATER_OR_EQUAL h0 n0 _ T11.heap _
        rw [e11]
        exact ⟨by rw [eq16], N11, trivial⟩
  · have pre17 : ∀ t, Steps p.tables e below (s₁.setTop (mkF m 21 #[.val (.int p1), .val (.int (f0_v6 p1)), .unset, .unset, .unset, .unset, .unset] [(.int (1 : Int32)), (.int (f0_v6 p1))])) t → Steps p.tables e below (s₁.setTop (entryFrame m #[(.int p1)] maxLocals)) t := by
      intro t k
      refine pre1 t ?_
      show Steps p.tables e below (s₁.setTop (mkF m 9 #[.val (.int p1), .val (.int (f0_v6 p1)), .unset, .unset, .unset, .unset, .unset] [(.int (f0_v6 p1))])) _
      refine XS.ifYes X0.here hx rfl (pc0 := 9) (pc' := 19) rfl (hb hby at_9) rfl ((if0 _ _).trans (feq hc9).2) (by decide) (by decide) ?_
      show Steps p.tables e below (s₁.setTop (mkF m 19 #[.val (.int p1), .val (.int (f0_v6 p1)), .unset, .unset, .unset, .unset, .unset] [])) _
      refine XS.iloadN X0.here hx rfl (hb hby at_19) rfl ?_
      show Steps p.tables e below (s₁.setTop (mkF m 20 #[.val (.int p1), .val (.int (f0_v6 p1)), .unset, .unset, .unset, .unset, .unset] [(.int (f0_v6 p1))])) _
      refine XS.iconst X0.here hx rfl (hb hby at_20) ?_
      exact k
    by_cases hc21 : (f0_v6 p1) = (1 : Int32)
    · obtain ⟨T17, X17, e17, st17⟩ := getS2 X0 hx hZ hown (host := "") (Or.inl (hw _ (List.mem_of_getElem? (i := 51) rfl))) Via.refl e0 S_NOT_EQUAL (g := (mkF m 24 #[.val (.int p1), .val (.int (f0_v6 p1)), .unset, .unset, .unset, .unset, .unset] [])) rfl (hb hby at_24)
      have pre18 : ∀ t, Steps p.tables e below (T17.setTop (mkF m 73 #[.val (.int p1), .val (.int (f0_v6 p1)), .val (.ref w_NOT_EQUAL), .unset, .unset, .unset, .unset] [(.int (2 : Int32)), (.int (f0_v6 p1))])) t → Steps p.tables e below (s₁.setTop (entryFrame m #[(.int p1)] maxLocals)) t := by
        intro t k
        refine pre17 t ?_
        show Steps p.tables e below (s₁.setTop (mkF m 21 #[.val (.int p1), .val (.int (f0_v6 p1)), .unset, .unset, .unset, .unset, .unset] [(.int (1 : Int32)), (.int (f0_v6 p1))])) _
        refine XS.icmpNo X0.here hx rfl (hb hby at_21) rfl (teq hc21).2 ?_
        show Steps p.tables e below (s₁.setTop (mkF m 24 #[.val (.int p1), .val (.int (f0_v6 p1)), .unset, .unset, .unset, .unset, .unset] [])) _
        refine st17 _ ?_
        show Steps p.tables e below (T17.setTop (mkF m 27 #[.val (.int p1), .val (.int (f0_v6 p1)), .unset, .unset, .unset, .unset, .unset] [(.ref w_NOT_EQUAL)])) _
        refine XS.astoreN X17.here hx rfl (hb hby at_27) rfl rfl (l' := #[.val (.int p1), .val (.int (f0_v6 p1)), .val (.ref w_NOT_EQUAL), .unset, .unset, .unset, .unset]) rfl ?_
        show Steps p.tables e below (T17.setTop (mkF m 28 #[.val (.int p1), .val (.int (f0_v6 p1)), .val (.ref w_NOT_EQUAL), .unset, .unset, .unset, .unset] [])) _
        refine XS.goto X17.here hx rfl (pc0 := 28) (pc' := 71) rfl (hb hby at_28) (by decide) (by decide) ?_
        show Steps p.tables e below (T17.setTop (mkF m 71 #[.val (.int p1), .val (.int (f0_v6 p1)), .val (.ref w_NOT_EQUAL), .unset, .unset, .unset, .unset] [])) _
        refine XS.iloadN X17.here hx rfl (hb hby at_71) rfl ?_
        show Steps p.tables e below (T17.setTop (mkF m 72 #[.val (.int p1), .val (.int (f0_v6 p1)), .val (.ref w_NOT_EQUAL), .unset, .unset, .unset, .unset] [(.int (f0_v6 p1))])) _
        refine XS.iconst X17.here hx rfl (hb hby at_72) ?_
        exact k
      have pre19 : ∀ t, Steps p.tables e below (T17.setTop (mkF m 81 #[.val (.int p1), .val (.int (f0_v6 p1)), .val (.ref w_NOT_EQUAL), .unset, .unset, .unset, .unset] [(.int (f0_s0_81_3 p1))])) t → Steps p.tables e below (s₁.setTop (entryFrame m #[(.int p1)] maxLocals)) t := by
        intro t k
        by_cases hc73 : (f0_v6 p1) < (2 : Int32)
        · have eq20 := (show (f0_s0_81_3 p1) = (0 : Int32) from by unfold f0_s0_81_3; simp only [if_pos hc73])
          try rw [eq20] at k
          refine pre18 t ?_
          show Steps p.tables e below (T17.setTop (mkF m 73 #[.val (.int p1), .val (.int (f0_v6 p1)), .val (.ref w_NOT_EQUAL), .unset, .unset, .unset, .unset] [(.int (2 : Int32)), (.int (f0_v6 p1))])) _
          refine XS.icmpYes X17.here hx rfl (pc0 := 73) (pc' := 80) rfl (hb hby at_73) rfl (tlt hc73).1 (by decide) (by decide) ?_
          show Steps p.tables e below (T17.setTop (mkF m 80 #[.val (.int p1), .val (.int (f0_v6 p1)), .val (.ref w_NOT_EQUAL), .unset, .unset, .unset, .unset] [])) _
          refine XS.iconst X17.here hx rfl (hb hby at_80) ?_
          exact k
        · have eq21 := (show (f0_s0_81_3 p1) = (1 : Int32) from by unfold f0_s0_81_3; simp only [if_neg hc73])
          try rw [eq21] at k
          refine pre18 t ?_
          show Steps p.tables e below (T17.setTop (mkF m 73 #[.val (.int p1), .val (.int (f0_v6 p1)), .val (.ref w_NOT_EQUAL), .unset, .unset, .unset, .unset] [(.int (2 : Int32)), (.int (f0_v6 p1))])) _
          refine XS.icmpNo X17.here hx rfl (hb hby at_73) rfl (flt hc73).1 ?_
          show Steps p.tables e below (T17.setTop (mkF m 76 #[.val (.int p1), .val (.int (f0_v6 p1)), .val (.ref w_NOT_EQUAL), .unset, .unset, .unset, .unset] [])) _
          refine XS.iconst X17.here hx rfl (hb hby at_76) ?_
          show Steps p.tables e below (T17.setTop (mkF m 77 #[.val (.int p1), .val (.int (f0_v6 p1)), .val (.ref w_NOT_EQUAL), .unset, .unset, .unset, .unset] [(.int (1 : Int32))])) _
          refine XS.goto X17.here hx rfl (pc0 := 77) (pc' := 81) rfl (hb hby at_77) (by decide) (by decide) ?_
          exact k
      obtain ⟨cq18, kq18, q18a, q18b, q18c⟩ := isOf hZ e17 E_w_NOT_EQUAL
      obtain ⟨_, _, ⟨T18, L18, k18, n18⟩, -, X18, ⟨Lc18, hQ18, l18, y18, z18⟩, st18⟩ := X17.virtualBack hx (y := (⟨"com/example/inline_monitor/inlinemonitor/model/Guard$Relation", "symbol", "()Ljava/lang/String;"⟩ : MethodName)) (z := (⟨"com/example/inline_monitor/inlinemonitor/model/Guard$Relation", "symbol", "()Ljava/lang/String;"⟩ : MethodName)) hown (mvT hZ (hw _ (List.mem_of_getElem? (i := 4) rfl))) (mvT hZ (hw _ (List.mem_of_getElem? (i := 5) rfl))) (notFace_of_selects (args := #[]) (mvT hZ (hw _ (List.mem_of_getElem? (i := 7) rfl)))) (mvT hZ (hw _ (List.mem_of_getElem? (i := 7) rfl))) (mvT hZ (hw _ (List.mem_of_getElem? (i := 6) rfl))) (by decide) (backOf (W := 0) (rm1 l Z a0 hw [] w_NOT_EQUAL y_NOT_EQUAL h0 n0 Z0 F_symbol_w_NOT_EQUAL) hZ (hw _ (List.mem_of_getElem? (i := 8) rfl)) (hw _ (List.mem_of_getElem? (i := 2) rfl)) (by decide) (by decide)) q18a q18c (g := (mkF m 83 #[.val (.int p1), .val (.int (f0_v6 p1)), .val (.ref w_NOT_EQUAL), .val (.int (f0_s0_81_3 p1)), .unset, .unset, .unset] [(.ref w_NOT_EQUAL)])) rfl (by rw [hml]; rfl) (Steps.refl _) (argsL := []) (rest := []) (lenOf pd_4 rfl) rfl (by show 2 * 0 + _ ≤ _; exact Nat.le_of_eq rfl) (hb hby at_83) (fun _ _ => ⟨rfl, e17, (by decide : 0 + 0 ≤ _), (by decide : 0 + 0 ≤ _)⟩)
      dsimp only [Pt.U, Pt.locs, Pt.cells, Pt.slots] at X18 l18 y18 z18 st18 hQ18
      subst l18 y18 z18
      obtain ⟨rfl, N18q, e18⟩ := hQ18
      have N18 := Fr.app N0 N18q
      obtain ⟨cq19, kq19, q19a, q19b, q19c⟩ := isOf hZ e18 E_y_NOT_EQUAL
      obtain ⟨_, _, ⟨T19, L19, k19, n19⟩, -, X19, ⟨Lc19, hQ19, l19, y19, z19⟩, st19⟩ := X18.virtualBack hx (y := (⟨"java/lang/String", "charAt", "(I)C"⟩ : MethodName)) (z := (⟨"java/lang/String", "charAt", "(I)C"⟩ : MethodName)) hown (mvT hZ (hw _ (List.mem_of_getElem? (i := 11) rfl))) (mvT hZ (hw _ (List.mem_of_getElem? (i := 12) rfl))) (notFace_of_selects (args := #[]) (mvT hZ (hw _ (List.mem_of_getElem? (i := 14) rfl)))) (mvT hZ (hw _ (List.mem_of_getElem? (i := 14) rfl))) (mvT hZ (hw _ (List.mem_of_getElem? (i := 13) rfl))) (by decide) (backOf (W := 0) (rm2 l Z a0 hw [] y_NOT_EQUAL (0 : Int32) w_CS k_NOT_EQUAL v_NOT_EQUAL z_v_NOT_EQUAL c_v_NOT_EQUAL w_SIO h0 n0 Z0 E_y_NOT_EQUAL S_COMPACT_STRINGS hcs F_coder_y_NOT_EQUAL hk_NOT_EQUAL F_value_y_NOT_EQUAL V_v_NOT_EQUAL S_SIOOBE_FORMATTER hcat ⟨by decide, hl_NOT_EQUAL⟩) hZ (hw _ (List.mem_of_getElem? (i := 16) rfl)) (hw _ (List.mem_of_getElem? (i := 15) rfl)) (by decide) (by decide)) q19a q19c (g := (mkF m 91 #[.val (.int p1), .val (.int (f0_v6 p1)), .val (.ref w_NOT_EQUAL), .val (.int (f0_s0_81_3 p1)), .val (.ref y_NOT_EQUAL), .unset, .unset] [(.int (0 : Int32)), (.ref y_NOT_EQUAL)])) rfl (by rw [hml]; rfl) (Steps.refl _) (argsL := [(.int (0 : Int32))]) (rest := []) (lenOf pd_5 rfl) rfl (by show 2 * 0 + _ ≤ _; exact Nat.le_of_eq rfl) (hb hby at_91) (fun _ _ => ⟨rfl, e18, (by decide : 0 + 0 ≤ _), (by decide : 0 + 0 ≤ _)⟩)
      dsimp only [Pt.U, Pt.locs, Pt.cells, Pt.slots] at X19 l19 y19 z19 st19 hQ19
      subst l19 y19 z19
      obtain ⟨rfl, N19q, e19⟩ := hQ19
      have N19 := Fr.app N18 N19q
      have pre22 : ∀ t, Steps p.tables e below (T19.setTop (mkF m 100 #[.val (.int p1), .val (.int (f0_v6 p1)), .val (.ref w_NOT_EQUAL), .val (.int (f0_s0_81_3 p1)), .val (.ref y_NOT_EQUAL), .val (.int (f2 y_NOT_EQUAL (0 : Int32) w_CS k_NOT_EQUAL v_NOT_EQUAL z_v_NOT_EQUAL c_v_NOT_EQUAL)), .unset] [(.int (60 : Int32)), (.int (f2 y_NOT_EQUAL (0 : Int32) w_CS k_NOT_EQUAL v_NOT_EQUAL z_v_NOT_EQUAL c_v_NOT_EQUAL))])) t → Steps p.tables e below (s₁.setTop (entryFrame m #[(.int p1)] maxLocals)) t := by
        intro t k
        refine pre19 t ?_
        show Steps p.tables e below (T17.setTop (mkF m 81 #[.val (.int p1), .val (.int (f0_v6 p1)), .val (.ref w_NOT_EQUAL), .unset, .unset, .unset, .unset] [(.int (f0_s0_81_3 p1))])) _
        refine XS.istoreN X17.here hx rfl (hb hby at_81) rfl (l' := #[.val (.int p1), .val (.int (f0_v6 p1)), .val (.ref w_NOT_EQUAL), .val (.int (f0_s0_81_3 p1)), .unset, .unset, .unset]) rfl ?_
        show Steps p.tables e below (T17.setTop (mkF m 82 #[.val (.int p1), .val (.int (f0_v6 p1)), .val (.ref w_NOT_EQUAL), .val (.int (f0_s0_81_3 p1)), .unset, .unset, .unset] [])) _
        refine XS.aloadN X17.here hx rfl (hb hby at_82) rfl rfl ?_
        show Steps p.tables e below (T17.setTop (mkF m 83 #[.val (.int p1), .val (.int (f0_v6 p1)), .val (.ref w_NOT_EQUAL), .val (.int (f0_s0_81_3 p1)), .unset, .unset, .unset] [(.ref w_NOT_EQUAL)])) _
        refine st18.trans ?_
        show Steps p.tables e below (T18.setTop (mkF m 86 #[.val (.int p1), .val (.int (f0_v6 p1)), .val (.ref w_NOT_EQUAL), .val (.int (f0_s0_81_3 p1)), .unset, .unset, .unset] [(.ref y_NOT_EQUAL)])) _
        refine XS.astore X18.here hx rfl (hb hby at_86) rfl rfl (l' := #[.val (.int p1), .val (.int (f0_v6 p1)), .val (.ref w_NOT_EQUAL), .val (.int (f0_s0_81_3 p1)), .val (.ref y_NOT_EQUAL), .unset, .unset]) rfl ?_
        show Steps p.tables e below (T18.setTop (mkF m 88 #[.val (.int p1), .val (.int (f0_v6 p1)), .val (.ref w_NOT_EQUAL), .val (.int (f0_s0_81_3 p1)), .val (.ref y_NOT_EQUAL), .unset, .unset] [])) _
        refine XS.aload X18.here hx rfl (hb hby at_88) rfl rfl ?_
        show Steps p.tables e below (T18.setTop (mkF m 90 #[.val (.int p1), .val (.int (f0_v6 p1)), .val (.ref w_NOT_EQUAL), .val (.int (f0_s0_81_3 p1)), .val (.ref y_NOT_EQUAL), .unset, .unset] [(.ref y_NOT_EQUAL)])) _
        refine XS.iconst X18.here hx rfl (hb hby at_90) ?_
        show Steps p.tables e below (T18.setTop (mkF m 91 #[.val (.int p1), .val (.int (f0_v6 p1)), .val (.ref w_NOT_EQUAL), .val (.int (f0_s0_81_3 p1)), .val (.ref y_NOT_EQUAL), .unset, .unset] [(.int (0 : Int32)), (.ref y_NOT_EQUAL)])) _
        refine st19.trans ?_
        show Steps p.tables e below (T19.setTop (mkF m 94 #[.val (.int p1), .val (.int (f0_v6 p1)), .val (.ref w_NOT_EQUAL), .val (.int (f0_s0_81_3 p1)), .val (.ref y_NOT_EQUAL), .unset, .unset] [(.int (f2 y_NOT_EQUAL (0 : Int32) w_CS k_NOT_EQUAL v_NOT_EQUAL z_v_NOT_EQUAL c_v_NOT_EQUAL))])) _
        refine XS.istore X19.here hx rfl (hb hby at_94) rfl (l' := #[.val (.int p1), .val (.int (f0_v6 p1)), .val (.ref w_NOT_EQUAL), .val (.int (f0_s0_81_3 p1)), .val (.ref y_NOT_EQUAL), .val (.int (f2 y_NOT_EQUAL (0 : Int32) w_CS k_NOT_EQUAL v_NOT_EQUAL z_v_NOT_EQUAL c_v_NOT_EQUAL)), .unset]) rfl ?_
        show Steps p.tables e below (T19.setTop (mkF m 96 #[.val (.int p1), .val (.int (f0_v6 p1)), .val (.ref w_NOT_EQUAL), .val (.int (f0_s0_81_3 p1)), .val (.ref y_NOT_EQUAL), .val (.int (f2 y_NOT_EQUAL (0 : Int32) w_CS k_NOT_EQUAL v_NOT_EQUAL z_v_NOT_EQUAL c_v_NOT_EQUAL)), .unset] [])) _
        refine XS.iload X19.here hx rfl (hb hby at_96) rfl ?_
        show Steps p.tables e below (T19.setTop (mkF m 98 #[.val (.int p1), .val (.int (f0_v6 p1)), .val (.ref w_NOT_EQUAL), .val (.int (f0_s0_81_3 p1)), .val (.ref y_NOT_EQUAL), .val (.int (f2 y_NOT_EQUAL (0 : Int32) w_CS k_NOT_EQUAL v_NOT_EQUAL z_v_NOT_EQUAL c_v_NOT_EQUAL)), .unset] [(.int (f2 y_NOT_EQUAL (0 : Int32) w_CS k_NOT_EQUAL v_NOT_EQUAL z_v_NOT_EQUAL c_v_NOT_EQUAL))])) _
        refine XS.bipush X19.here hx rfl (hb hby at_98) ?_
        exact k
      have pre23 : ∀ t, Steps p.tables e below (T19.setTop (mkF m 115 #[.val (.int p1), .val (.int (f0_v6 p1)), .val (.ref w_NOT_EQUAL), .val (.int (f0_s0_81_3 p1)), .val (.ref y_NOT_EQUAL), .val (.int (f2 y_NOT_EQUAL (0 : Int32) w_CS k_NOT_EQUAL v_NOT_EQUAL z_v_NOT_EQUAL c_v_NOT_EQUAL)), .unset] [(.int (f0_s0_115_4 w_CS y_NOT_EQUAL k_NOT_EQUAL v_NOT_EQUAL z_v_NOT_EQUAL c_v_NOT_EQUAL))])) t → Steps p.tables e below (s₁.setTop (entryFrame m #[(.int p1)] maxLocals)) t := by
        intro t k
        by_cases hc100 : (f2 y_NOT_EQUAL (0 : Int32) w_CS k_NOT_EQUAL v_NOT_EQUAL z_v_NOT_EQUAL c_v_NOT_EQUAL) = (60 : Int32)
        · have eq24 := (show (f0_s0_115_4 w_CS y_NOT_EQUAL k_NOT_EQUAL v_NOT_EQUAL z_v_NOT_EQUAL c_v_NOT_EQUAL) = (1 : Int32) from by unfold f0_s0_115_4; simp only [if_pos hc100])
          try rw [eq24] at k
          refine pre22 t ?_
          show Steps p.tables e below (T19.setTop (mkF m 100 #[.val (.int p1), .val (.int (f0_v6 p1)), .val (.ref w_NOT_EQUAL), .val (.int (f0_s0_81_3 p1)), .val (.ref y_NOT_EQUAL), .val (.int (f2 y_NOT_EQUAL (0 : Int32) w_CS k_NOT_EQUAL v_NOT_EQUAL z_v_NOT_EQUAL c_v_NOT_EQUAL)), .unset] [(.int (60 : Int32)), (.int (f2 y_NOT_EQUAL (0 : Int32) w_CS k_NOT_EQUAL v_NOT_EQUAL z_v_NOT_EQUAL c_v_NOT_EQUAL))])) _
          refine XS.icmpYes X19.here hx rfl (pc0 := 100) (pc' := 110) rfl (hb hby at_100) rfl (teq hc100).1 (by decide) (by decide) ?_
          show Steps p.tables e below (T19.setTop (mkF m 110 #[.val (.int p1), .val (.int (f0_v6 p1)), .val (.ref w_NOT_EQUAL), .val (.int (f0_s0_81_3 p1)), .val (.ref y_NOT_EQUAL), .val (.int (f2 y_NOT_EQUAL (0 : Int32) w_CS k_NOT_EQUAL v_NOT_EQUAL z_v_NOT_EQUAL c_v_NOT_EQUAL)), .unset] [])) _
          refine XS.iconst X19.here hx rfl (hb hby at_110) ?_
          show Steps p.tables e below (T19.setTop (mkF m 111 #[.val (.int p1), .val (.int (f0_v6 p1)), .val (.ref w_NOT_EQUAL), .val (.int (f0_s0_81_3 p1)), .val (.ref y_NOT_EQUAL), .val (.int (f2 y_NOT_EQUAL (0 : Int32) w_CS k_NOT_EQUAL v_NOT_EQUAL z_v_NOT_EQUAL c_v_NOT_EQUAL)), .unset] [(.int (1 : Int32))])) _
          refine XS.goto X19.here hx rfl (pc0 := 111) (pc' := 115) rfl (hb hby at_111) (by decide) (by decide) ?_
          exact k
        · have pre25 : ∀ t, Steps p.tables e below (T19.setTop (mkF m 107 #[.val (.int p1), .val (.int (f0_v6 p1)), .val (.ref w_NOT_EQUAL), .val (.int (f0_s0_81_3 p1)), .val (.ref y_NOT_EQUAL), .val (.int (f2 y_NOT_EQUAL (0 : Int32) w_CS k_NOT_EQUAL v_NOT_EQUAL z_v_NOT_EQUAL c_v_NOT_EQUAL)), .unset] [(.int (62 : Int32)), (.int (f2 y_NOT_EQUAL (0 : Int32) w_CS k_NOT_EQUAL v_NOT_EQUAL z_v_NOT_EQUAL c_v_NOT_EQUAL))])) t → Steps p.tables e below (s₁.setTop (entryFrame m #[(.int p1)] maxLocals)) t := by
            intro t k
            refine pre22 t ?_
            show Steps p.tables e below (T19.setTop (mkF m 100 #[.val (.int p1), .val (.int (f0_v6 p1)), .val (.ref w_NOT_EQUAL), .val (.int (f0_s0_81_3 p1)), .val (.ref y_NOT_EQUAL), .val (.int (f2 y_NOT_EQUAL (0 : Int32) w_CS k_NOT_EQUAL v_NOT_EQUAL z_v_NOT_EQUAL c_v_NOT_EQUAL)), .unset] [(.int (60 : Int32)), (.int (f2 y_NOT_EQUAL (0 : Int32) w_CS k_NOT_EQUAL v_NOT_EQUAL z_v_NOT_EQUAL c_v_NOT_EQUAL))])) _
            refine XS.icmpNo X19.here hx rfl (hb hby at_100) rfl (feq hc100).1 ?_
            show Steps p.tables e below (T19.setTop (mkF m 103 #[.val (.int p1), .val (.int (f0_v6 p1)), .val (.ref w_NOT_EQUAL), .val (.int (f0_s0_81_3 p1)), .val (.ref y_NOT_EQUAL), .val (.int (f2 y_NOT_EQUAL (0 : Int32) w_CS k_NOT_EQUAL v_NOT_EQUAL z_v_NOT_EQUAL c_v_NOT_EQUAL)), .unset] [])) _
            refine XS.iload X19.here hx rfl (hb hby at_103) rfl ?_
            show Steps p.tables e below (T19.setTop (mkF m 105 #[.val (.int p1), .val (.int (f0_v6 p1)), .val (.ref w_NOT_EQUAL), .val (.int (f0_s0_81_3 p1)), .val (.ref y_NOT_EQUAL), .val (.int (f2 y_NOT_EQUAL (0 : Int32) w_CS k_NOT_EQUAL v_NOT_EQUAL z_v_NOT_EQUAL c_v_NOT_EQUAL)), .unset] [(.int (f2 y_NOT_EQUAL (0 : Int32) w_CS k_NOT_EQUAL v_NOT_EQUAL z_v_NOT_EQUAL c_v_NOT_EQUAL))])) _
            refine XS.bipush X19.here hx rfl (hb hby at_105) ?_
            exact k
          by_cases hc107 : (f2 y_NOT_EQUAL (0 : Int32) w_CS k_NOT_EQUAL v_NOT_EQUAL z_v_NOT_EQUAL c_v_NOT_EQUAL) = (62 : Int32)
          · have eq26 := (show (f0_s0_115_4 w_CS y_NOT_EQUAL k_NOT_EQUAL v_NOT_EQUAL z_v_NOT_EQUAL c_v_NOT_EQUAL) = (1 : Int32) from by unfold f0_s0_115_4; simp only [if_neg hc100, if_pos hc107])
            try rw [eq26] at k
            refine pre25 t ?_
            show Steps p.tables e below (T19.setTop (mkF m 107 #[.val (.int p1), .val (.int (f0_v6 p1)), .val (.ref w_NOT_EQUAL), .val (.int (f0_s0_81_3 p1)), .val (.ref y_NOT_EQUAL), .val (.int (f2 y_NOT_EQUAL (0 : Int32) w_CS k_NOT_EQUAL v_NOT_EQUAL z_v_NOT_EQUAL c_v_NOT_EQUAL)), .unset] [(.int (62 : Int32)), (.int (f2 y_NOT_EQUAL (0 : Int32) w_CS k_NOT_EQUAL v_NOT_EQUAL z_v_NOT_EQUAL c_v_NOT_EQUAL))])) _
            refine XS.icmpNo X19.here hx rfl (hb hby at_107) rfl (teq hc107).2 ?_
            show Steps p.tables e below (T19.setTop (mkF m 110 #[.val (.int p1), .val (.int (f0_v6 p1)), .val (.ref w_NOT_EQUAL), .val (.int (f0_s0_81_3 p1)), .val (.ref y_NOT_EQUAL), .val (.int (f2 y_NOT_EQUAL (0 : Int32) w_CS k_NOT_EQUAL v_NOT_EQUAL z_v_NOT_EQUAL c_v_NOT_EQUAL)), .unset] [])) _
            refine XS.iconst X19.here hx rfl (hb hby at_110) ?_
            show Steps p.tables e below (T19.setTop (mkF m 111 #[.val (.int p1), .val (.int (f0_v6 p1)), .val (.ref w_NOT_EQUAL), .val (.int (f0_s0_81_3 p1)), .val (.ref y_NOT_EQUAL), .val (.int (f2 y_NOT_EQUAL (0 : Int32) w_CS k_NOT_EQUAL v_NOT_EQUAL z_v_NOT_EQUAL c_v_NOT_EQUAL)), .unset] [(.int (1 : Int32))])) _
            refine XS.goto X19.here hx rfl (pc0 := 111) (pc' := 115) rfl (hb hby at_111) (by decide) (by decide) ?_
            exact k
          · have eq27 := (show (f0_s0_115_4 w_CS y_NOT_EQUAL k_NOT_EQUAL v_NOT_EQUAL z_v_NOT_EQUAL c_v_NOT_EQUAL) = (0 : Int32) from by unfold f0_s0_115_4; simp only [if_neg hc100, if_neg hc107])
            try rw [eq27] at k
            refine pre25 t ?_
            show Steps p.tables e below (T19.setTop (mkF m 107 #[.val (.int p1), .val (.int (f0_v6 p1)), .val (.ref w_NOT_EQUAL), .val (.int (f0_s0_81_3 p1)), .val (.ref y_NOT_EQUAL), .val (.int (f2 y_NOT_EQUAL (0 : Int32) w_CS k_NOT_EQUAL v_NOT_EQUAL z_v_NOT_EQUAL c_v_NOT_EQUAL)), .unset] [(.int (62 : Int32)), (.int (f2 y_NOT_EQUAL (0 : Int32) w_CS k_NOT_EQUAL v_NOT_EQUAL z_v_NOT_EQUAL c_v_NOT_EQUAL))])) _
            refine XS.icmpYes X19.here hx rfl (pc0 := 107) (pc' := 114) rfl (hb hby at_107) rfl (feq hc107).2 (by decide) (by decide) ?_
            show Steps p.tables e below (T19.setTop (mkF m 114 #[.val (.int p1), .val (.int (f0_v6 p1)), .val (.ref w_NOT_EQUAL), .val (.int (f0_s0_81_3 p1)), .val (.ref y_NOT_EQUAL), .val (.int (f2 y_NOT_EQUAL (0 : Int32) w_CS k_NOT_EQUAL v_NOT_EQUAL z_v_NOT_EQUAL c_v_NOT_EQUAL)), .unset] [])) _
            refine XS.iconst X19.here hx rfl (hb hby at_114) ?_
            exact k
      obtain ⟨cq20, kq20, q20a, q20b, q20c⟩ := isOf hZ e19 E_w_NOT_EQUAL
      obtain ⟨_, _, ⟨T20, L20, k20, n20⟩, -, X20, ⟨Lc20, hQ20, l20, y20, z20⟩, st20⟩ := X19.virtualBack hx (y := (⟨"com/example/inline_monitor/inlinemonitor/model/Guard$Relation", "isOrdering", "()Z"⟩ : MethodName)) (z := (⟨"com/example/inline_monitor/inlinemonitor/model/Guard$Relation", "isOrdering", "()Z"⟩ : MethodName)) hown (mvT hZ (hw _ (List.mem_of_getElem? (i := 39) rfl))) (mvT hZ (hw _ (List.mem_of_getElem? (i := 40) rfl))) (notFace_of_selects (args := #[]) (mvT hZ (hw _ (List.mem_of_getElem? (i := 42) rfl)))) (mvT hZ (hw _ (List.mem_of_getElem? (i := 42) rfl))) (mvT hZ (hw _ (List.mem_of_getElem? (i := 41) rfl))) (by decide) (backOf (W := 0) (rm7 l Z a0 hw [] w_NOT_EQUAL w_EQUAL w_NOT_EQUAL h0 n0 Z0 S_EQUAL S_NOT_EQUAL) hZ (hw _ (List.mem_of_getElem? (i := 43) rfl)) (hw _ (List.mem_of_getElem? (i := 2) rfl)) (by decide) (by decide)) q20a q20c (g := (mkF m 118 #[.val (.int p1), .val (.int (f0_v6 p1)), .val (.ref w_NOT_EQUAL), .val (.int (f0_s0_81_3 p1)), .val (.ref y_NOT_EQUAL), .val (.int (f2 y_NOT_EQUAL (0 : Int32) w_CS k_NOT_EQUAL v_NOT_EQUAL z_v_NOT_EQUAL c_v_NOT_EQUAL)), .val (.int (f0_s0_115_4 w_CS y_NOT_EQUAL k_NOT_EQUAL v_NOT_EQUAL z_v_NOT_EQUAL c_v_NOT_EQUAL))] [(.ref w_NOT_EQUAL)])) rfl (by rw [hml]; rfl) (Steps.refl _) (argsL := []) (rest := []) (lenOf pd_2 rfl) rfl (by show 2 * 0 + _ ≤ _; exact Nat.le_of_eq rfl) (hb hby at_118) (fun _ _ => ⟨rfl, e19, (by decide : 0 + 0 ≤ _), (by decide : 0 + 0 ≤ _)⟩)
      dsimp only [Pt.U, Pt.locs, Pt.cells, Pt.slots] at X20 l20 y20 z20 st20 hQ20
      subst l20 y20 z20
      obtain ⟨rfl, N20q, e20⟩ := hQ20
      have N20 := Fr.app N19 N20q
      have pre28 : ∀ t, Steps p.tables e below (T20.setTop (mkF m 122 #[.val (.int p1), .val (.int (f0_v6 p1)), .val (.ref w_NOT_EQUAL), .val (.int (f0_s0_81_3 p1)), .val (.ref y_NOT_EQUAL), .val (.int (f2 y_NOT_EQUAL (0 : Int32) w_CS k_NOT_EQUAL v_NOT_EQUAL z_v_NOT_EQUAL c_v_NOT_EQUAL)), .val (.int (f0_s0_115_4 w_CS y_NOT_EQUAL k_NOT_EQUAL v_NOT_EQUAL z_v_NOT_EQUAL c_v_NOT_EQUAL))] [(.int (f0_s0_81_3 p1)), (.int (f7 w_NOT_EQUAL w_EQUAL w_NOT_EQUAL))])) t → Steps p.tables e below (s₁.setTop (entryFrame m #[(.int p1)] maxLocals)) t := by
        intro t k
        refine pre23 t ?_
        show Steps p.tables e below (T19.setTop (mkF m 115 #[.val (.int p1), .val (.int (f0_v6 p1)), .val (.ref w_NOT_EQUAL), .val (.int (f0_s0_81_3 p1)), .val (.ref y_NOT_EQUAL), .val (.int (f2 y_NOT_EQUAL (0 : Int32) w_CS k_NOT_EQUAL v_NOT_EQUAL z_v_NOT_EQUAL c_v_NOT_EQUAL)), .unset] [(.int (f0_s0_115_4 w_CS y_NOT_EQUAL k_NOT_EQUAL v_NOT_EQUAL z_v_NOT_EQUAL c_v_NOT_EQUAL))])) _
        refine XS.istore X19.here hx rfl (hb hby at_115) rfl (l' := #[.val (.int p1), .val (.int (f0_v6 p1)), .val (.ref w_NOT_EQUAL), .val (.int (f0_s0_81_3 p1)), .val (.ref y_NOT_EQUAL), .val (.int (f2 y_NOT_EQUAL (0 : Int32) w_CS k_NOT_EQUAL v_NOT_EQUAL z_v_NOT_EQUAL c_v_NOT_EQUAL)), .val (.int (f0_s0_115_4 w_CS y_NOT_EQUAL k_NOT_EQUAL v_NOT_EQUAL z_v_NOT_EQUAL c_v_NOT_EQUAL))]) rfl ?_
        show Steps p.tables e below (T19.setTop (mkF m 117 #[.val (.int p1), .val (.int (f0_v6 p1)), .val (.ref w_NOT_EQUAL), .val (.int (f0_s0_81_3 p1)), .val (.ref y_NOT_EQUAL), .val (.int (f2 y_NOT_EQUAL (0 : Int32) w_CS k_NOT_EQUAL v_NOT_EQUAL z_v_NOT_EQUAL c_v_NOT_EQUAL)), .val (.int (f0_s0_115_4 w_CS y_NOT_EQUAL k_NOT_EQUAL v_NOT_EQUAL z_v_NOT_EQUAL c_v_NOT_EQUAL))] [])) _
        refine XS.aloadN X19.here hx rfl (hb hby at_117) rfl rfl ?_
        show Steps p.tables e below (T19.setTop (mkF m 118 #[.val (.int p1), .val (.int (f0_v6 p1)), .val (.ref w_NOT_EQUAL), .val (.int (f0_s0_81_3 p1)), .val (.ref y_NOT_EQUAL), .val (.int (f2 y_NOT_EQUAL (0 : Int32) w_CS k_NOT_EQUAL v_NOT_EQUAL z_v_NOT_EQUAL c_v_NOT_EQUAL)), .val (.int (f0_s0_115_4 w_CS y_NOT_EQUAL k_NOT_EQUAL v_NOT_EQUAL z_v_NOT_EQUAL c_v_NOT_EQUAL))] [(.ref w_NOT_EQUAL)])) _
        refine st20.trans ?_
        show Steps p.tables e below (T20.setTop (mkF m 121 #[.val (.int p1), .val (.int (f0_v6 p1)), .val (.ref w_NOT_EQUAL), .val (.int (f0_s0_81_3 p1)), .val (.ref y_NOT_EQUAL), .val (.int (f2 y_NOT_EQUAL (0 : Int32) w_CS k_NOT_EQUAL v_NOT_EQUAL z_v_NOT_EQUAL c_v_NOT_EQUAL)), .val (.int (f0_s0_115_4 w_CS y_NOT_EQUAL k_NOT_EQUAL v_NOT_EQUAL z_v_NOT_EQUAL c_v_NOT_EQUAL))] [(.int (f7 w_NOT_EQUAL w_EQUAL w_NOT_EQUAL))])) _
        refine XS.iloadN X20.here hx rfl (hb hby at_121) rfl ?_
        exact k
      by_cases hc122 : (f7 w_NOT_EQUAL w_EQUAL w_NOT_EQUAL) = (f0_s0_81_3 p1)
      · have pre29 : ∀ t, Steps p.tables e below (T20.setTop (mkF m 128 #[.val (.int p1), .val (.int (f0_v6 p1)), .val (.ref w_NOT_EQUAL), .val (.int (f0_s0_81_3 p1)), .val (.ref y_NOT_EQUAL), .val (.int (f2 y_NOT_EQUAL (0 : Int32) w_CS k_NOT_EQUAL v_NOT_EQUAL z_v_NOT_EQUAL c_v_NOT_EQUAL)), .val (.int (f0_s0_115_4 w_CS y_NOT_EQUAL k_NOT_EQUAL v_NOT_EQUAL z_v_NOT_EQUAL c_v_NOT_EQUAL))] [(.int (f0_s0_115_4 w_CS y_NOT_EQUAL k_NOT_EQUAL v_NOT_EQUAL z_v_NOT_EQUAL c_v_NOT_EQUAL)), (.int (f0_s0_81_3 p1))])) t → Steps p.tables e below (s₁.setTop (entryFrame m #[(.int p1)] maxLocals)) t := by
          intro t k
          refine pre28 t ?_
          show Steps p.tables e below (T20.setTop (mkF m 122 #[.val (.int p1), .val (.int (f0_v6 p1)), .val (.ref w_NOT_EQUAL), .val (.int (f0_s0_81_3 p1)), .val (.ref y_NOT_EQUAL), .val (.int (f2 y_NOT_EQUAL (0 : Int32) w_CS k_NOT_EQUAL v_NOT_EQUAL z_v_NOT_EQUAL c_v_NOT_EQUAL)), .val (.int (f0_s0_115_4 w_CS y_NOT_EQUAL k_NOT_EQUAL v_NOT_EQUAL z_v_NOT_EQUAL c_v_NOT_EQUAL))] [(.int (f0_s0_81_3 p1)), (.int (f7 w_NOT_EQUAL w_EQUAL w_NOT_EQUAL))])) _
          refine XS.icmpNo X20.here hx rfl (hb hby at_122) rfl (teq hc122).2 ?_
          show Steps p.tables e below (T20.setTop (mkF m 125 #[.val (.int p1), .val (.int (f0_v6 p1)), .val (.ref w_NOT_EQUAL), .val (.int (f0_s0_81_3 p1)), .val (.ref y_NOT_EQUAL), .val (.int (f2 y_NOT_EQUAL (0 : Int32) w_CS k_NOT_EQUAL v_NOT_EQUAL z_v_NOT_EQUAL c_v_NOT_EQUAL)), .val (.int (f0_s0_115_4 w_CS y_NOT_EQUAL k_NOT_EQUAL v_NOT_EQUAL z_v_NOT_EQUAL c_v_NOT_EQUAL))] [])) _
          refine XS.iloadN X20.here hx rfl (hb hby at_125) rfl ?_
          show Steps p.tables e below (T20.setTop (mkF m 126 #[.val (.int p1), .val (.int (f0_v6 p1)), .val (.ref w_NOT_EQUAL), .val (.int (f0_s0_81_3 p1)), .val (.ref y_NOT_EQUAL), .val (.int (f2 y_NOT_EQUAL (0 : Int32) w_CS k_NOT_EQUAL v_NOT_EQUAL z_v_NOT_EQUAL c_v_NOT_EQUAL)), .val (.int (f0_s0_115_4 w_CS y_NOT_EQUAL k_NOT_EQUAL v_NOT_EQUAL z_v_NOT_EQUAL c_v_NOT_EQUAL))] [(.int (f0_s0_81_3 p1))])) _
          refine XS.iload X20.here hx rfl (hb hby at_126) rfl ?_
          exact k
        by_cases hc128 : (f0_s0_81_3 p1) = (f0_s0_115_4 w_CS y_NOT_EQUAL k_NOT_EQUAL v_NOT_EQUAL z_v_NOT_EQUAL c_v_NOT_EQUAL)
        · have eq30 : (f0 p1 w_EQUAL w_NOT_EQUAL w_LESS w_LESS_OR_EQUAL w_GREATER w_GREATER_OR_EQUAL w_CS y_EQUAL k_EQUAL v_EQUAL z_v_EQUAL c_v_EQUAL y_NOT_EQUAL k_NOT_EQUAL v_NOT_EQUAL z_v_NOT_EQUAL c_v_NOT_EQUAL y_LESS k_LESS v_LESS z_v_LESS c_v_LESS y_LESS_OR_EQUAL k_LESS_OR_EQUAL v_LESS_OR_EQUAL z_v_LESS_OR_EQUAL c_v_LESS_OR_EQUAL y_GREATER k_GREATER v_GREATER z_v_GREATER c_v_GREATER y_GREATER_OR_EQUAL k_GREATER_OR_EQUAL v_GREATER_OR_EQUAL z_v_GREATER_OR_EQUAL c_v_GREATER_OR_EQUAL) = (1 : Int32) := by unfold f0; simp only [if_neg hc9, if_pos hc21, if_pos hc122, if_pos hc128]
          obtain ⟨fs, hr, hrun, hended, hW, hsame⟩ := X20.leave (v := some (.int (1 : Int32))) (fun h => by rw [Bd.returns] at h; cases h)
          refine ⟨_, _, pre29 _ ?_, hrun, hended, _, _, rfl, ?_, ⟨_, rfl⟩, hW, hsame.mono (by decide) (by decide)⟩
          · show Steps p.tables e below (T20.setTop (mkF m 128 #[.val (.int p1), .val (.int (f0_v6 p1)), .val (.ref w_NOT_EQUAL), .val (.int (f0_s0_81_3 p1)), .val (.ref y_NOT_EQUAL), .val (.int (f2 y_NOT_EQUAL (0 : Int32) w_CS k_NOT_EQUAL v_NOT_EQUAL z_v_NOT_EQUAL c_v_NOT_EQUAL)), .val (.int (f0_s0_115_4 w_CS y_NOT_EQUAL k_NOT_EQUAL v_NOT_EQUAL z_v_NOT_EQUAL c_v_NOT_EQUAL))] [(.int (f0_s0_115_4 w_CS y_NOT_EQUAL k_NOT_EQUAL v_NOT_EQUAL z_v_NOT_EQUAL c_v_NOT_EQUAL)), (.int (f0_s0_81_3 p1))])) _
            refine XS.icmpNo X20.here hx rfl (hb hby at_128) rfl (teq hc128).2 ?_
            show Steps p.tables e below (T20.setTop (mkF m 131 #[.val (.int p1), .val (.int (f0_v6 p1)), .val (.ref w_NOT_EQUAL), .val (.int (f0_s0_81_3 p1)), .val (.ref y_NOT_EQUAL), .val (.int (f2 y_NOT_EQUAL (0 : Int32) w_CS k_NOT_EQUAL v_NOT_EQUAL z_v_NOT_EQUAL c_v_NOT_EQUAL)), .val (.int (f0_s0_115_4 w_CS y_NOT_EQUAL k_NOT_EQUAL v_NOT_EQUAL z_v_NOT_EQUAL c_v_NOT_EQUAL))] [])) _
            refine XS.iconst X20.here hx rfl (hb hby at_131) ?_
            show Steps p.tables e below (T20.setTop (mkF m 132 #[.val (.int p1), .val (.int (f0_v6 p1)), .val (.ref w_NOT_EQUAL), .val (.int (f0_s0_81_3 p1)), .val (.ref y_NOT_EQUAL), .val (.int (f2 y_NOT_EQUAL (0 : Int32) w_CS k_NOT_EQUAL v_NOT_EQUAL z_v_NOT_EQUAL c_v_NOT_EQUAL)), .val (.int (f0_s0_115_4 w_CS y_NOT_EQUAL k_NOT_EQUAL v_NOT_EQUAL z_v_NOT_EQUAL c_v_NOT_EQUAL))] [(.int (1 : Int32))])) _
            refine XS.goto X20.here hx rfl (pc0 := 132) (pc' := 136) rfl (hb hby at_132) (by decide) (by decide) ?_
            show Steps p.tables e below (T20.setTop (mkF m 136 #[.val (.int p1), .val (.int (f0_v6 p1)), .val (.ref w_NOT_EQUAL), .val (.int (f0_s0_81_3 p1)), .val (.ref y_NOT_EQUAL), .val (.int (f2 y_NOT_EQUAL (0 : Int32) w_CS k_NOT_EQUAL v_NOT_EQUAL z_v_NOT_EQUAL c_v_NOT_EQUAL)), .val (.int (f0_s0_115_4 w_CS y_NOT_EQUAL k_NOT_EQUAL v_NOT_EQUAL z_v_NOT_EQUAL c_v_NOT_EQUAL))] [(.int (1 : Int32))])) _
            exact retN X20 hx (t := .boolean) Bd.returns (by simp) (hb hby at_136) hr
          · show Q0 Z p1 w_EQUAL w_NOT_EQUAL w_LESS w_LESS_OR_EQUAL w_GREATER w_GREATER_OR_EQUAL w_CS w_SIO y_EQUAL k_EQUAL v_EQUAL z_v_EQUAL c_v_EQUAL y_NOT_EQUAL k_NOT_EQUAL v_NOT_EQUAL z_v_NOT_EQUAL c_v_NOT_EQUAL y_LESS k_LESS v_LESS z_v_LESS c_v_LESS y_LESS_OR_EQUAL k_LESS_OR_EQUAL v_LESS_OR_EQUAL z_v_LESS_OR_EQUAL c_v_LESS_OR_EQUAL y_GREATER k_GREATER v_GREATER z_v_GREATER c_v_GREATER y_GREATER_OR_EQUAL k_GREATER_OR_EQUAL v_GREATER_OR_EQUAL z_v_GREATER_OR_EQUAL c_v_GREATER_OR_EQUAL h0 n0 _ T20.heap _
            rw [e20]
            exact ⟨by rw [eq30], N20, trivial⟩
        · have eq31 : (f0 p1 w_EQUAL w_NOT_EQUAL w_LESS w_LESS_OR_EQUAL w_GREATER w_GREATER_OR_EQUAL w_CS y_EQUAL k_EQUAL v_EQUAL z_v_EQUAL c_v_EQUAL y_NOT_EQUAL k_NOT_EQUAL v_NOT_EQUAL z_v_NOT_EQUAL c_v_NOT_EQUAL y_LESS k_LESS v_LESS z_v_LESS c_v_LESS y_LESS_OR_EQUAL k_LESS_OR_EQUAL v_LESS_OR_EQUAL z_v_LESS_OR_EQUAL c_v_LESS_OR_EQUAL y_GREATER k_GREATER v_GREATER z_v_GREATER c_v_GREATER y_GREATER_OR_EQUAL k_GREATER_OR_EQUAL v_GREATER_OR_EQUAL z_v_GREATER_OR_EQUAL c_v_GREATER_OR_EQUAL) = (0 : Int32) := by unfold f0; simp only [if_neg hc9, if_pos hc21, if_pos hc122, if_neg hc128]
          obtain ⟨fs, hr, hrun, hended, hW, hsame⟩ := X20.leave (v := some (.int (0 : Int32))) (fun h => by rw [Bd.returns] at h; cases h)
          refine ⟨_, _, pre29 _ ?_, hrun, hended, _, _, rfl, ?_, ⟨_, rfl⟩, hW, hsame.mono (by decide) (by decide)⟩
          · show Steps p.tables e below (T20.setTop (mkF m 128 #[.val (.int p1), .val (.int (f0_v6 p1)), .val (.ref w_NOT_EQUAL), .val (.int (f0_s0_81_3 p1)), .val (.ref y_NOT_EQUAL), .val (.int (f2 y_NOT_EQUAL (0 : Int32) w_CS k_NOT_EQUAL v_NOT_EQUAL z_v_NOT_EQUAL c_v_NOT_EQUAL)), .val (.int (f0_s0_115_4 w_CS y_NOT_EQUAL k_NOT_EQUAL v_NOT_EQUAL z_v_NOT_EQUAL c_v_NOT_EQUAL))] [(.int (f0_s0_115_4 w_CS y_NOT_EQUAL k_NOT_EQUAL v_NOT_EQUAL z_v_NOT_EQUAL c_v_NOT_EQUAL)), (.int (f0_s0_81_3 p1))])) _
            refine XS.icmpYes X20.here hx rfl (pc0 := 128) (pc' := 135) rfl (hb hby at_128) rfl (feq hc128).2 (by decide) (by decide) ?_
            show Steps p.tables e below (T20.setTop (mkF m 135 #[.val (.int p1), .val (.int (f0_v6 p1)), .val (.ref w_NOT_EQUAL), .val (.int (f0_s0_81_3 p1)), .val (.ref y_NOT_EQUAL), .val (.int (f2 y_NOT_EQUAL (0 : Int32) w_CS k_NOT_EQUAL v_NOT_EQUAL z_v_NOT_EQUAL c_v_NOT_EQUAL)), .val (.int (f0_s0_115_4 w_CS y_NOT_EQUAL k_NOT_EQUAL v_NOT_EQUAL z_v_NOT_EQUAL c_v_NOT_EQUAL))] [])) _
            refine XS.iconst X20.here hx rfl (hb hby at_135) ?_
            show Steps p.tables e below (T20.setTop (mkF m 136 #[.val (.int p1), .val (.int (f0_v6 p1)), .val (.ref w_NOT_EQUAL), .val (.int (f0_s0_81_3 p1)), .val (.ref y_NOT_EQUAL), .val (.int (f2 y_NOT_EQUAL (0 : Int32) w_CS k_NOT_EQUAL v_NOT_EQUAL z_v_NOT_EQUAL c_v_NOT_EQUAL)), .val (.int (f0_s0_115_4 w_CS y_NOT_EQUAL k_NOT_EQUAL v_NOT_EQUAL z_v_NOT_EQUAL c_v_NOT_EQUAL))] [(.int (0 : Int32))])) _
            exact retN X20 hx (t := .boolean) Bd.returns (by simp) (hb hby at_136) hr
          · show Q0 Z p1 w_EQUAL w_NOT_EQUAL w_LESS w_LESS_OR_EQUAL w_GREATER w_GREATER_OR_EQUAL w_CS w_SIO y_EQUAL k_EQUAL v_EQUAL z_v_EQUAL c_v_EQUAL y_NOT_EQUAL k_NOT_EQUAL v_NOT_EQUAL z_v_NOT_EQUAL c_v_NOT_EQUAL y_LESS k_LESS v_LESS z_v_LESS c_v_LESS y_LESS_OR_EQUAL k_LESS_OR_EQUAL v_LESS_OR_EQUAL z_v_LESS_OR_EQUAL c_v_LESS_OR_EQUAL y_GREATER k_GREATER v_GREATER z_v_GREATER c_v_GREATER y_GREATER_OR_EQUAL k_GREATER_OR_EQUAL v_GREATER_OR_EQUAL z_v_GREATER_OR_EQUAL c_v_GREATER_OR_EQUAL h0 n0 _ T20.heap _
            rw [e20]
            exact ⟨by rw [eq31], N20, trivial⟩
      · have eq32 : (f0 p1 w_EQUAL w_NOT_EQUAL w_LESS w_LESS_OR_EQUAL w_GREATER w_GREATER_OR_EQUAL w_CS y_EQUAL k_EQUAL v_EQUAL z_v_EQUAL c_v_EQUAL y_NOT_EQUAL k_NOT_EQUAL v_NOT_EQUAL z_v_NOT_EQUAL c_v_NOT_EQUAL y_LESS k_LESS v_LESS z_v_LESS c_v_LESS y_LESS_OR_EQUAL k_LESS_OR_EQUAL v_LESS_OR_EQUAL z_v_LESS_OR_EQUAL c_v_LESS_OR_EQUAL y_GREATER k_GREATER v_GREATER z_v_GREATER c_v_GREATER y_GREATER_OR_EQUAL k_GREATER_OR_EQUAL v_GREATER_OR_EQUAL z_v_GREATER_OR_EQUAL c_v_GREATER_OR_EQUAL) = (0 : Int32) := by unfold f0; simp only [if_neg hc9, if_pos hc21, if_neg hc122]
        obtain ⟨fs, hr, hrun, hended, hW, hsame⟩ := X20.leave (v := some (.int (0 : Int32))) (fun h => by rw [Bd.returns] at h; cases h)
        refine ⟨_, _, pre28 _ ?_, hrun, hended, _, _, rfl, ?_, ⟨_, rfl⟩, hW, hsame.mono (by decide) (by decide)⟩
        · show Steps p.tables e below (T20.setTop (mkF m 122 #[.val (.int p1), .val (.int (f0_v6 p1)), .val (.ref w_NOT_EQUAL), .val (.int (f0_s0_81_3 p1)), .val (.ref y_NOT_EQUAL), .val (.int (f2 y_NOT_EQUAL (0 : Int32) w_CS k_NOT_EQUAL v_NOT_EQUAL z_v_NOT_EQUAL c_v_NOT_EQUAL)), .val (.int (f0_s0_115_4 w_CS y_NOT_EQUAL k_NOT_EQUAL v_NOT_EQUAL z_v_NOT_EQUAL c_v_NOT_EQUAL))] [(.int (f0_s0_81_3 p1)), (.int (f7 w_NOT_EQUAL w_EQUAL w_NOT_EQUAL))])) _
          refine XS.icmpYes X20.here hx rfl (pc0 := 122) (pc' := 135) rfl (hb hby at_122) rfl (feq hc122).2 (by decide) (by decide) ?_
          show Steps p.tables e below (T20.setTop (mkF m 135 #[.val (.int p1), .val (.int (f0_v6 p1)), .val (.ref w_NOT_EQUAL), .val (.int (f0_s0_81_3 p1)), .val (.ref y_NOT_EQUAL), .val (.int (f2 y_NOT_EQUAL (0 : Int32) w_CS k_NOT_EQUAL v_NOT_EQUAL z_v_NOT_EQUAL c_v_NOT_EQUAL)), .val (.int (f0_s0_115_4 w_CS y_NOT_EQUAL k_NOT_EQUAL v_NOT_EQUAL z_v_NOT_EQUAL c_v_NOT_EQUAL))] [])) _
          refine XS.iconst X20.here hx rfl (hb hby at_135) ?_
          show Steps p.tables e below (T20.setTop (mkF m 136 #[.val (.int p1), .val (.int (f0_v6 p1)), .val (.ref w_NOT_EQUAL), .val (.int (f0_s0_81_3 p1)), .val (.ref y_NOT_EQUAL), .val (.int (f2 y_NOT_EQUAL (0 : Int32) w_CS k_NOT_EQUAL v_NOT_EQUAL z_v_NOT_EQUAL c_v_NOT_EQUAL)), .val (.int (f0_s0_115_4 w_CS y_NOT_EQUAL k_NOT_EQUAL v_NOT_EQUAL z_v_NOT_EQUAL c_v_NOT_EQUAL))] [(.int (0 : Int32))])) _
          exact retN X20 hx (t := .boolean) Bd.returns (by simp) (hb hby at_136) hr
        · show Q0 Z p1 w_EQUAL w_NOT_EQUAL w_LESS w_LESS_OR_EQUAL w_GREATER w_GREATER_OR_EQUAL w_CS w_SIO y_EQUAL k_EQUAL v_EQUAL z_v_EQUAL c_v_EQUAL y_NOT_EQUAL k_NOT_EQUAL v_NOT_EQUAL z_v_NOT_EQUAL c_v_NOT_EQUAL y_LESS k_LESS v_LESS z_v_LESS c_v_LESS y_LESS_OR_EQUAL k_LESS_OR_EQUAL v_LESS_OR_EQUAL z_v_LESS_OR_EQUAL c_v_LESS_OR_EQUAL y_GREATER k_GREATER v_GREATER z_v_GREATER c_v_GREATER y_GREATER_OR_EQUAL k_GREATER_OR_EQUAL v_GREATER_OR_EQUAL z_v_GREATER_OR_EQUAL c_v_GREATER_OR_EQUAL h0 n0 _ T20.heap _
          rw [e20]
          exact ⟨by rw [eq32], N20, trivial⟩
    · have pre33 : ∀ t, Steps p.tables e below (s₁.setTop (mkF m 33 #[.val (.int p1), .val (.int (f0_v6 p1)), .unset, .unset, .unset, .unset, .unset] [(.int (2 : Int32)), (.int (f0_v6 p1))])) t → Steps p.tables e below (s₁.setTop (entryFrame m #[(.int p1)] maxLocals)) t := by
        intro t k
        refine pre17 t ?_
        show Steps p.tables e below (s₁.setTop (mkF m 21 #[.val (.int p1), .val (.int (f0_v6 p1)), .unset, .unset, .unset, .unset, .unset] [(.int (1 : Int32)), (.int (f0_v6 p1))])) _
        refine XS.icmpYes X0.here hx rfl (pc0 := 21) (pc' := 31) rfl (hb hby at_21) rfl (feq hc21).2 (by decide) (by decide) ?_
        show Steps p.tables e below (s₁.setTop (mkF m 31 #[.val (.int p1), .val (.int (f0_v6 p1)), .unset, .unset, .unset, .unset, .unset] [])) _
        refine XS.iloadN X0.here hx rfl (hb hby at_31) rfl ?_
        show Steps p.tables e below (s₁.setTop (mkF m 32 #[.val (.int p1), .val (.int (f0_v6 p1)), .unset, .unset, .unset, .unset, .unset] [(.int (f0_v6 p1))])) _
        refine XS.iconst X0.here hx rfl (hb hby at_32) ?_
        exact k
      by_cases hc33 : (f0_v6 p1) = (2 : Int32)
      · obtain ⟨T25, X25, e25, st25⟩ := getS2 X0 hx hZ hown (host := "") (Or.inl (hw _ (List.mem_of_getElem? (i := 49) rfl))) Via.refl e0 S_LESS (g := (mkF m 36 #[.val (.int p1), .val (.int (f0_v6 p1)), .unset, .unset, .unset, .unset, .unset] [])) rfl (hb hby at_36)
        have pre34 : ∀ t, Steps p.tables e below (T25.setTop (mkF m 73 #[.val (.int p1), .val (.int (f0_v6 p1)), .val (.ref w_LESS), .unset, .unset, .unset, .unset] [(.int (2 : Int32)), (.int (f0_v6 p1))])) t → Steps p.tables e below (s₁.setTop (entryFrame m #[(.int p1)] maxLocals)) t := by
          intro t k
          refine pre33 t ?_
          show Steps p.tables e below (s₁.setTop (mkF m 33 #[.val (.int p1), .val (.int (f0_v6 p1)), .unset, .unset, .unset, .unset, .unset] [(.int (2 : Int32)), (.int (f0_v6 p1))])) _
          refine XS.icmpNo X0.here hx rfl (hb hby at_33) rfl (teq hc33).2 ?_
          show Steps p.tables e below (s₁.setTop (mkF m 36 #[.val (.int p1), .val (.int (f0_v6 p1)), .unset, .unset, .unset, .unset, .unset] [])) _
          refine st25 _ ?_
          show Steps p.tables e below (T25.setTop (mkF m 39 #[.val (.int p1), .val (.int (f0_v6 p1)), .unset, .unset, .unset, .unset, .unset] [(.ref w_LESS)])) _
          refine XS.astoreN X25.here hx rfl (hb hby at_39) rfl rfl (l' := #[.val (.int p1), .val (.int (f0_v6 p1)), .val (.ref w_LESS), .unset, .unset, .unset, .unset]) rfl ?_
          show Steps p.tables e below (T25.setTop (mkF m 40 #[.val (.int p1), .val (.int (f0_v6 p1)), .val (.ref w_LESS), .unset, .unset, .unset, .unset] [])) _
          refine XS.goto X25.here hx rfl (pc0 := 40) (pc' := 71) rfl (hb hby at_40) (by decide) (by decide) ?_
          show Steps p.tables e below (T25.setTop (mkF m 71 #[.val (.int p1), .val (.int (f0_v6 p1)), .val (.ref w_LESS), .unset, .unset, .unset, .unset] [])) _
          refine XS.iloadN X25.here hx rfl (hb hby at_71) rfl ?_
          show Steps p.tables e below (T25.setTop (mkF m 72 #[.val (.int p1), .val (.int (f0_v6 p1)), .val (.ref w_LESS), .unset, .unset, .unset, .unset] [(.int (f0_v6 p1))])) _
          refine XS.iconst X25.here hx rfl (hb hby at_72) ?_
          exact k
        have pre35 : ∀ t, Steps p.tables e below (T25.setTop (mkF m 81 #[.val (.int p1), .val (.int (f0_v6 p1)), .val (.ref w_LESS), .unset, .unset, .unset, .unset] [(.int (f0_s0_81_5 p1))])) t → Steps p.tables e below (s₁.setTop (entryFrame m #[(.int p1)] maxLocals)) t := by
          intro t k
          by_cases hc73 : (f0_v6 p1) < (2 : Int32)
          · have eq36 := (show (f0_s0_81_5 p1) = (0 : Int32) from by unfold f0_s0_81_5; simp only [if_pos hc73])
            try rw [eq36] at k
            refine pre34 t ?_
            show Steps p.tables e below (T25.setTop (mkF m 73 #[.val (.int p1), .val (.int (f0_v6 p1)), .val (.ref w_LESS), .unset, .unset, .unset, .unset] [(.int (2 : Int32)), (.int (f0_v6 p1))])) _
            refine XS.icmpYes X25.here hx rfl (pc0 := 73) (pc' := 80) rfl (hb hby at_73) rfl (tlt hc73).1 (by decide) (by decide) ?_
            show Steps p.tables e below (T25.setTop (mkF m 80 #[.val (.int p1), .val (.int (f0_v6 p1)), .val (.ref w_LESS), .unset, .unset, .unset, .unset] [])) _
            refine XS.iconst X25.here hx rfl (hb hby at_80) ?_
            exact k
          · have eq37 := (show (f0_s0_81_5 p1) = (1 : Int32) from by unfold f0_s0_81_5; simp only [if_neg hc73])
            try rw [eq37] at k
            refine pre34 t ?_
            show Steps p.tables e below (T25.setTop (mkF m 73 #[.val (.int p1), .val (.int (f0_v6 p1)), .val (.ref w_LESS), .unset, .unset, .unset, .unset] [(.int (2 : Int32)), (.int (f0_v6 p1))])) _
            refine XS.icmpNo X25.here hx rfl (hb hby at_73) rfl (flt hc73).1 ?_
            show Steps p.tables e below (T25.setTop (mkF m 76 #[.val (.int p1), .val (.int (f0_v6 p1)), .val (.ref w_LESS), .unset, .unset, .unset, .unset] [])) _
            refine XS.iconst X25.here hx rfl (hb hby at_76) ?_
            show Steps p.tables e below (T25.setTop (mkF m 77 #[.val (.int p1), .val (.int (f0_v6 p1)), .val (.ref w_LESS), .unset, .unset, .unset, .unset] [(.int (1 : Int32))])) _
            refine XS.goto X25.here hx rfl (pc0 := 77) (pc' := 81) rfl (hb hby at_77) (by decide) (by decide) ?_
            exact k
        obtain ⟨cq26, kq26, q26a, q26b, q26c⟩ := isOf hZ e25 E_w_LESS
        obtain ⟨_, _, ⟨T26, L26, k26, n26⟩, -, X26, ⟨Lc26, hQ26, l26, y26, z26⟩, st26⟩ := X25.virtualBack hx (y := (⟨"com/example/inline_monitor/inlinemonitor/model/Guard$Relation", "symbol", "()Ljava/lang/String;"⟩ : MethodName)) (z := (⟨"com/example/inline_monitor/inlinemonitor/model/Guard$Relation", "symbol", "()Ljava/lang/String;"⟩ : MethodName)) hown (mvT hZ (hw _ (List.mem_of_getElem? (i := 4) rfl))) (mvT hZ (hw _ (List.mem_of_getElem? (i := 5) rfl))) (notFace_of_selects (args := #[]) (mvT hZ (hw _ (List.mem_of_getElem? (i := 7) rfl)))) (mvT hZ (hw _ (List.mem_of_getElem? (i := 7) rfl))) (mvT hZ (hw _ (List.mem_of_getElem? (i := 6) rfl))) (by decide) (backOf (W := 0) (rm1 l Z a0 hw [] w_LESS y_LESS h0 n0 Z0 F_symbol_w_LESS) hZ (hw _ (List.mem_of_getElem? (i := 8) rfl)) (hw _ (List.mem_of_getElem? (i := 2) rfl)) (by decide) (by decide)) q26a q26c (g := (mkF m 83 #[.val (.int p1), .val (.int (f0_v6 p1)), .val (.ref w_LESS), .val (.int (f0_s0_81_5 p1)), .unset, .unset, .unset] [(.ref w_LESS)])) rfl (by rw [hml]; rfl) (Steps.refl _) (argsL := []) (rest := []) (lenOf pd_4 rfl) rfl (by show 2 * 0 + _ ≤ _; exact Nat.le_of_eq rfl) (hb hby at_83) (fun _ _ => ⟨rfl, e25, (by decide : 0 + 0 ≤ _), (by decide : 0 + 0 ≤ _)⟩)
        dsimp only [Pt.U, Pt.locs, Pt.cells, Pt.slots] at X26 l26 y26 z26 st26 hQ26
        subst l26 y26 z26
        obtain ⟨rfl, N26q, e26⟩ := hQ26
        have N26 := Fr.app N0 N26q
        obtain ⟨cq27, kq27, q27a, q27b, q27c⟩ := isOf hZ e26 E_y_LESS
        obtain ⟨_, _, ⟨T27, L27, k27, n27⟩, -, X27, ⟨Lc27, hQ27, l27, y27, z27⟩, st27⟩ := X26.virtualBack hx (y := (⟨"java/lang/String", "charAt", "(I)C"⟩ : MethodName)) (z := (⟨"java/lang/String", "charAt", "(I)C"⟩ : MethodName)) hown (mvT hZ (hw _ (List.mem_of_getElem? (i := 11) rfl))) (mvT hZ (hw _ (List.mem_of_getElem? (i := 12) rfl))) (notFace_of_selects (args := #[]) (mvT hZ (hw _ (List.mem_of_getElem? (i := 14) rfl)))) (mvT hZ (hw _ (List.mem_of_getElem? (i := 14) rfl))) (mvT hZ (hw _ (List.mem_of_getElem? (i := 13) rfl))) (by decide) (backOf (W := 0) (rm2 l Z a0 hw [] y_LESS (0 : Int32) w_CS k_LESS v_LESS z_v_LESS c_v_LESS w_SIO h0 n0 Z0 E_y_LESS S_COMPACT_STRINGS hcs F_coder_y_LESS hk_LESS F_value_y_LESS V_v_LESS S_SIOOBE_FORMATTER hcat ⟨by decide, hl_LESS⟩) hZ (hw _ (List.mem_of_getElem? (i := 16) rfl)) (hw _ (List.mem_of_getElem? (i := 15) rfl)) (by decide) (by decide)) q27a q27c (g := (mkF m 91 #[.val (.int p1), .val (.int (f0_v6 p1)), .val (.ref w_LESS), .val (.int (f0_s0_81_5 p1)), .val (.ref y_LESS), .unset, .unset] [(.int (0 : Int32)), (.ref y_LESS)])) rfl (by rw [hml]; rfl) (Steps.refl _) (argsL := [(.int (0 : Int32))]) (rest := []) (lenOf pd_5 rfl) rfl (by show 2 * 0 + _ ≤ _; exact Nat.le_of_eq rfl) (hb hby at_91) (fun _ _ => ⟨rfl, e26, (by decide : 0 + 0 ≤ _), (by decide : 0 + 0 ≤ _)⟩)
        dsimp only [Pt.U, Pt.locs, Pt.cells, Pt.slots] at X27 l27 y27 z27 st27 hQ27
        subst l27 y27 z27
        obtain ⟨rfl, N27q, e27⟩ := hQ27
        have N27 := Fr.app N26 N27q
        have pre38 : ∀ t, Steps p.tables e below (T27.setTop (mkF m 100 #[.val (.int p1), .val (.int (f0_v6 p1)), .val (.ref w_LESS), .val (.int (f0_s0_81_5 p1)), .val (.ref y_LESS), .val (.int (f2 y_LESS (0 : Int32) w_CS k_LESS v_LESS z_v_LESS c_v_LESS)), .unset] [(.int (60 : Int32)), (.int (f2 y_LESS (0 : Int32) w_CS k_LESS v_LESS z_v_LESS c_v_LESS))])) t → Steps p.tables e below (s₁.setTop (entryFrame m #[(.int p1)] maxLocals)) t := by
          intro t k
          refine pre35 t ?_
          show Steps p.tables e below (T25.setTop (mkF m 81 #[.val (.int p1), .val (.int (f0_v6 p1)), .val (.ref w_LESS), .unset, .unset, .unset, .unset] [(.int (f0_s0_81_5 p1))])) _
          refine XS.istoreN X25.here hx rfl (hb hby at_81) rfl (l' := #[.val (.int p1), .val (.int (f0_v6 p1)), .val (.ref w_LESS), .val (.int (f0_s0_81_5 p1)), .unset, .unset, .unset]) rfl ?_
          show Steps p.tables e below (T25.setTop (mkF m 82 #[.val (.int p1), .val (.int (f0_v6 p1)), .val (.ref w_LESS), .val (.int (f0_s0_81_5 p1)), .unset, .unset, .unset] [])) _
          refine XS.aloadN X25.here hx rfl (hb hby at_82) rfl rfl ?_
          show Steps p.tables e below (T25.setTop (mkF m 83 #[.val (.int p1), .val (.int (f0_v6 p1)), .val (.ref w_LESS), .val (.int (f0_s0_81_5 p1)), .unset, .unset, .unset] [(.ref w_LESS)])) _
          refine st26.trans ?_
          show Steps p.tables e below (T26.setTop (mkF m 86 #[.val (.int p1), .val (.int (f0_v6 p1)), .val (.ref w_LESS), .val (.int (f0_s0_81_5 p1)), .unset, .unset, .unset] [(.ref y_LESS)])) _
          refine XS.astore X26.here hx rfl (hb hby at_86) rfl rfl (l' := #[.val (.int p1), .val (.int (f0_v6 p1)), .val (.ref w_LESS), .val (.int (f0_s0_81_5 p1)), .val (.ref y_LESS), .unset, .unset]) rfl ?_
          show Steps p.tables e below (T26.setTop (mkF m 88 #[.val (.int p1), .val (.int (f0_v6 p1)), .val (.ref w_LESS), .val (.int (f0_s0_81_5 p1)), .val (.ref y_LESS), .unset, .unset] [])) _
          refine XS.aload X26.here hx rfl (hb hby at_88) rfl rfl ?_
          show Steps p.tables e below (T26.setTop (mkF m 90 #[.val (.int p1), .val (.int (f0_v6 p1)), .val (.ref w_LESS), .val (.int (f0_s0_81_5 p1)), .val (.ref y_LESS), .unset, .unset] [(.ref y_LESS)])) _
          refine XS.iconst X26.here hx rfl (hb hby at_90) ?_
          show Steps p.tables e below (T26.setTop (mkF m 91 #[.val (.int p1), .val (.int (f0_v6 p1)), .val (.ref w_LESS), .val (.int (f0_s0_81_5 p1)), .val (.ref y_LESS), .unset, .unset] [(.int (0 : Int32)), (.ref y_LESS)])) _
          refine st27.trans ?_
          show Steps p.tables e below (T27.setTop (mkF m 94 #[.val (.int p1), .val (.int (f0_v6 p1)), .val (.ref w_LESS), .val (.int (f0_s0_81_5 p1)), .val (.ref y_LESS), .unset, .unset] [(.int (f2 y_LESS (0 : Int32) w_CS k_LESS v_LESS z_v_LESS c_v_LESS))])) _
          refine XS.istore X27.here hx rfl (hb hby at_94) rfl (l' := #[.val (.int p1), .val (.int (f0_v6 p1)), .val (.ref w_LESS), .val (.int (f0_s0_81_5 p1)), .val (.ref y_LESS), .val (.int (f2 y_LESS (0 : Int32) w_CS k_LESS v_LESS z_v_LESS c_v_LESS)), .unset]) rfl ?_
          show Steps p.tables e below (T27.setTop (mkF m 96 #[.val (.int p1), .val (.int (f0_v6 p1)), .val (.ref w_LESS), .val (.int (f0_s0_81_5 p1)), .val (.ref y_LESS), .val (.int (f2 y_LESS (0 : Int32) w_CS k_LESS v_LESS z_v_LESS c_v_LESS)), .unset] [])) _
          refine XS.iload X27.here hx rfl (hb hby at_96) rfl ?_
          show Steps p.tables e below (T27.setTop (mkF m 98 #[.val (.int p1), .val (.int (f0_v6 p1)), .val (.ref w_LESS), .val (.int (f0_s0_81_5 p1)), .val (.ref y_LESS), .val (.int (f2 y_LESS (0 : Int32) w_CS k_LESS v_LESS z_v_LESS c_v_LESS)), .unset] [(.int (f2 y_LESS (0 : Int32) w_CS k_LESS v_LESS z_v_LESS c_v_LESS))])) _
          refine XS.bipush X27.here hx rfl (hb hby at_98) ?_
          exact k
        have pre39 : ∀ t, Steps p.tables e below (T27.setTop (mkF m 115 #[.val (.int p1), .val (.int (f0_v6 p1)), .val (.ref w_LESS), .val (.int (f0_s0_81_5 p1)), .val (.ref y_LESS), .val (.int (f2 y_LESS (0 : Int32) w_CS k_LESS v_LESS z_v_LESS c_v_LESS)), .unset] [(.int (f0_s0_115_6 w_CS y_LESS k_LESS v_LESS z_v_LESS c_v_LESS))])) t → Steps p.tables e below (s₁.setTop (entryFrame m #[(.int p1)] maxLocals)) t := by
          intro t k
          by_cases hc100 : (f2 y_LESS (0 : Int32) w_CS k_LESS v_LESS z_v_LESS c_v_LESS) = (60 : Int32)
          · have eq40 := (show (f0_s0_115_6 w_CS y_LESS k_LESS v_LESS z_v_LESS c_v_LESS) = (1 : Int32) from by unfold f0_s0_115_6; simp only [if_pos hc100])
            try rw [eq40] at k
            refine pre38 t ?_
            show Steps p.tables e below (T27.setTop (mkF m 100 #[.val (.int p1), .val (.int (f0_v6 p1)), .val (.ref w_LESS), .val (.int (f0_s0_81_5 p1)), .val (.ref y_LESS), .val (.int (f2 y_LESS (0 : Int32) w_CS k_LESS v_LESS z_v_LESS c_v_LESS)), .unset] [(.int (60 : Int32)), (.int (f2 y_LESS (0 : Int32) w_CS k_LESS v_LESS z_v_LESS c_v_LESS))])) _
            refine XS.icmpYes X27.here hx rfl (pc0 := 100) (pc' := 110) rfl (hb hby at_100) rfl (teq hc100).1 (by decide) (by decide) ?_
            show Steps p.tables e below (T27.setTop (mkF m 110 #[.val (.int p1), .val (.int (f0_v6 p1)), .val (.ref w_LESS), .val (.int (f0_s0_81_5 p1)), .val (.ref y_LESS), .val (.int (f2 y_LESS (0 : Int32) w_CS k_LESS v_LESS z_v_LESS c_v_LESS)), .unset] [])) _
            refine XS.iconst X27.here hx rfl (hb hby at_110) ?_
            show Steps p.tables e below (T27.setTop (mkF m 111 #[.val (.int p1), .val (.int (f0_v6 p1)), .val (.ref w_LESS), .val (.int (f0_s0_81_5 p1)), .val (.ref y_LESS), .val (.int (f2 y_LESS (0 : Int32) w_CS k_LESS v_LESS z_v_LESS c_v_LESS)), .unset] [(.int (1 : Int32))])) _
            refine XS.goto X27.here hx rfl (pc0 := 111) (pc' := 115) rfl (hb hby at_111) (by decide) (by decide) ?_
            exact k
          · have pre41 : ∀ t, Steps p.tables e below (T27.setTop (mkF m 107 #[.val (.int p1), .val (.int (f0_v6 p1)), .val (.ref w_LESS), .val (.int (f0_s0_81_5 p1)), .val (.ref y_LESS), .val (.int (f2 y_LESS (0 : Int32) w_CS k_LESS v_LESS z_v_LESS c_v_LESS)), .unset] [(.int (62 : Int32)), (.int (f2 y_LESS (0 : Int32) w_CS k_LESS v_LESS z_v_LESS c_v_LESS))])) t → Steps p.tables e below (s₁.setTop (entryFrame m #[(.int p1)] maxLocals)) t := by
              intro t k
              refine pre38 t ?_
              show Steps p.tables e below (T27.setTop (mkF m 100 #[.val (.int p1), .val (.int (f0_v6 p1)), .val (.ref w_LESS), .val (.int (f0_s0_81_5 p1)), .val (.ref y_LESS), .val (.int (f2 y_LESS (0 : Int32) w_CS k_LESS v_LESS z_v_LESS c_v_LESS)), .unset] [(.int (60 : Int32)), (.int (f2 y_LESS (0 : Int32) w_CS k_LESS v_LESS z_v_LESS c_v_LESS))])) _
              refine XS.icmpNo X27.here hx rfl (hb hby at_100) rfl (feq hc100).1 ?_
              show Steps p.tables e below (T27.setTop (mkF m 103 #[.val (.int p1), .val (.int (f0_v6 p1)), .val (.ref w_LESS), .val (.int (f0_s0_81_5 p1)), .val (.ref y_LESS), .val (.int (f2 y_LESS (0 : Int32) w_CS k_LESS v_LESS z_v_LESS c_v_LESS)), .unset] [])) _
              refine XS.iload X27.here hx rfl (hb hby at_103) rfl ?_
              show Steps p.tables e below (T27.setTop (mkF m 105 #[.val (.int p1), .val (.int (f0_v6 p1)), .val (.ref w_LESS), .val (.int (f0_s0_81_5 p1)), .val (.ref y_LESS), .val (.int (f2 y_LESS (0 : Int32) w_CS k_LESS v_LESS z_v_LESS c_v_LESS)), .unset] [(.int (f2 y_LESS (0 : Int32) w_CS k_LESS v_LESS z_v_LESS c_v_LESS))])) _
              refine XS.bipush X27.here hx rfl (hb hby at_105) ?_
              exact k
            by_cases hc107 : (f2 y_LESS (0 : Int32) w_CS k_LESS v_LESS z_v_LESS c_v_LESS) = (62 : Int32)
            · have eq42 := (show (f0_s0_115_6 w_CS y_LESS k_LESS v_LESS z_v_LESS c_v_LESS) = (1 : Int32) from by unfold f0_s0_115_6; simp only [if_neg hc100, if_pos hc107])
              try rw [eq42] at k
              refine pre41 t ?_
              show Steps p.tables e below (T27.setTop (mkF m 107 #[.val (.int p1), .val (.int (f0_v6 p1)), .val (.ref w_LESS), .val (.int (f0_s0_81_5 p1)), .val (.ref y_LESS), .val (.int (f2 y_LESS (0 : Int32) w_CS k_LESS v_LESS z_v_LESS c_v_LESS)), .unset] [(.int (62 : Int32)), (.int (f2 y_LESS (0 : Int32) w_CS k_LESS v_LESS z_v_LESS c_v_LESS))])) _
              refine XS.icmpNo X27.here hx rfl (hb hby at_107) rfl (teq hc107).2 ?_
              show Steps p.tables e below (T27.setTop (mkF m 110 #[.val (.int p1), .val (.int (f0_v6 p1)), .val (.ref w_LESS), .val (.int (f0_s0_81_5 p1)), .val (.ref y_LESS), .val (.int (f2 y_LESS (0 : Int32) w_CS k_LESS v_LESS z_v_LESS c_v_LESS)), .unset] [])) _
              refine XS.iconst X27.here hx rfl (hb hby at_110) ?_
              show Steps p.tables e below (T27.setTop (mkF m 111 #[.val (.int p1), .val (.int (f0_v6 p1)), .val (.ref w_LESS), .val (.int (f0_s0_81_5 p1)), .val (.ref y_LESS), .val (.int (f2 y_LESS (0 : Int32) w_CS k_LESS v_LESS z_v_LESS c_v_LESS)), .unset] [(.int (1 : Int32))])) _
              refine XS.goto X27.here hx rfl (pc0 := 111) (pc' := 115) rfl (hb hby at_111) (by decide) (by decide) ?_
              exact k
            · have eq43 := (show (f0_s0_115_6 w_CS y_LESS k_LESS v_LESS z_v_LESS c_v_LESS) = (0 : Int32) from by unfold f0_s0_115_6; simp only [if_neg hc100, if_neg hc107])
              try rw [eq43] at k
              refine pre41 t ?_
              show Steps p.tables e below (T27.setTop (mkF m 107 #[.val (.int p1), .val (.int (f0_v6 p1)), .val (.ref w_LESS), .val (.int (f0_s0_81_5 p1)), .val (.ref y_LESS), .val (.int (f2 y_LESS (0 : Int32) w_CS k_LESS v_LESS z_v_LESS c_v_LESS)), .unset] [(.int (62 : Int32)), (.int (f2 y_LESS (0 : Int32) w_CS k_LESS v_LESS z_v_LESS c_v_LESS))])) _
              refine XS.icmpYes X27.here hx rfl (pc0 := 107) (pc' := 114) rfl (hb hby at_107) rfl (feq hc107).2 (by decide) (by decide) ?_
              show Steps p.tables e below (T27.setTop (mkF m 114 #[.val (.int p1), .val (.int (f0_v6 p1)), .val (.ref w_LESS), .val (.int (f0_s0_81_5 p1)), .val (.ref y_LESS), .val (.int (f2 y_LESS (0 : Int32) w_CS k_LESS v_LESS z_v_LESS c_v_LESS)), .unset] [])) _
              refine XS.iconst X27.here hx rfl (hb hby at_114) ?_
              exact k
        obtain ⟨cq28, kq28, q28a, q28b, q28c⟩ := isOf hZ e27 E_w_LESS
        obtain ⟨_, _, ⟨T28, L28, k28, n28⟩, -, X28, ⟨Lc28, hQ28, l28, y28, z28⟩, st28⟩ := X27.virtualBack hx (y := (⟨"com/example/inline_monitor/inlinemonitor/model/Guard$Relation", "isOrdering", "()Z"⟩ : MethodName)) (z := (⟨"com/example/inline_monitor/inlinemonitor/model/Guard$Relation", "isOrdering", "()Z"⟩ : MethodName)) hown (mvT hZ (hw _ (List.mem_of_getElem? (i := 39) rfl))) (mvT hZ (hw _ (List.mem_of_getElem? (i := 40) rfl))) (notFace_of_selects (args := #[]) (mvT hZ (hw _ (List.mem_of_getElem? (i := 42) rfl)))) (mvT hZ (hw _ (List.mem_of_getElem? (i := 42) rfl))) (mvT hZ (hw _ (List.mem_of_getElem? (i := 41) rfl))) (by decide) (backOf (W := 0) (rm7 l Z a0 hw [] w_LESS w_EQUAL w_NOT_EQUAL h0 n0 Z0 S_EQUAL S_NOT_EQUAL) hZ (hw _ (List.mem_of_getElem? (i := 43) rfl)) (hw _ (List.mem_of_getElem? (i := 2) rfl)) (by decide) (by decide)) q28a q28c (g := (mkF m 118 #[.val (.int p1), .val (.int (f0_v6 p1)), .val (.ref w_LESS), .val (.int (f0_s0_81_5 p1)), .val (.ref y_LESS), .val (.int (f2 y_LESS (0 : Int32) w_CS k_LESS v_LESS z_v_LESS c_v_LESS)), .val (.int (f0_s0_115_6 w_CS y_LESS k_LESS v_LESS z_v_LESS c_v_LESS))] [(.ref w_LESS)])) rfl (by rw [hml]; rfl) (Steps.refl _) (argsL := []) (rest := []) (lenOf pd_2 rfl) rfl (by show 2 * 0 + _ ≤ _; exact Nat.le_of_eq rfl) (hb hby at_118) (fun _ _ => ⟨rfl, e27, (by decide : 0 + 0 ≤ _), (by decide : 0 + 0 ≤ _)⟩)
        dsimp only [Pt.U, Pt.locs, Pt.cells, Pt.slots] at X28 l28 y28 z28 st28 hQ28
        subst l28 y28 z28
        obtain ⟨rfl, N28q, e28⟩ := hQ28
        have N28 := Fr.app N27 N28q
        have pre44 : ∀ t, Steps p.tables e below (T28.setTop (mkF m 122 #[.val (.int p1), .val (.int (f0_v6 p1)), .val (.ref w_LESS), .val (.int (f0_s0_81_5 p1)), .val (.ref y_LESS), .val (.int (f2 y_LESS (0 : Int32) w_CS k_LESS v_LESS z_v_LESS c_v_LESS)), .val (.int (f0_s0_115_6 w_CS y_LESS k_LESS v_LESS z_v_LESS c_v_LESS))] [(.int (f0_s0_81_5 p1)), (.int (f7 w_LESS w_EQUAL w_NOT_EQUAL))])) t → Steps p.tables e below (s₁.setTop (entryFrame m #[(.int p1)] maxLocals)) t := by
          intro t k
          refine pre39 t ?_
          show Steps p.tables e below (T27.setTop (mkF m 115 #[.val (.int p1), .val (.int (f0_v6 p1)), .val (.ref w_LESS), .val (.int (f0_s0_81_5 p1)), .val (.ref y_LESS), .val (.int (f2 y_LESS (0 : Int32) w_CS k_LESS v_LESS z_v_LESS c_v_LESS)), .unset] [(.int (f0_s0_115_6 w_CS y_LESS k_LESS v_LESS z_v_LESS c_v_LESS))])) _
          refine XS.istore X27.here hx rfl (hb hby at_115) rfl (l' := #[.val (.int p1), .val (.int (f0_v6 p1)), .val (.ref w_LESS), .val (.int (f0_s0_81_5 p1)), .val (.ref y_LESS), .val (.int (f2 y_LESS (0 : Int32) w_CS k_LESS v_LESS z_v_LESS c_v_LESS)), .val (.int (f0_s0_115_6 w_CS y_LESS k_LESS v_LESS z_v_LESS c_v_LESS))]) rfl ?_
          show Steps p.tables e below (T27.setTop (mkF m 117 #[.val (.int p1), .val (.int (f0_v6 p1)), .val (.ref w_LESS), .val (.int (f0_s0_81_5 p1)), .val (.ref y_LESS), .val (.int (f2 y_LESS (0 : Int32) w_CS k_LESS v_LESS z_v_LESS c_v_LESS)), .val (.int (f0_s0_115_6 w_CS y_LESS k_LESS v_LESS z_v_LESS c_v_LESS))] [])) _
          refine XS.aloadN X27.here hx rfl (hb hby at_117) rfl rfl ?_
          show Steps p.tables e below (T27.setTop (mkF m 118 #[.val (.int p1), .val (.int (f0_v6 p1)), .val (.ref w_LESS), .val (.int (f0_s0_81_5 p1)), .val (.ref y_LESS), .val (.int (f2 y_LESS (0 : Int32) w_CS k_LESS v_LESS z_v_LESS c_v_LESS)), .val (.int (f0_s0_115_6 w_CS y_LESS k_LESS v_LESS z_v_LESS c_v_LESS))] [(.ref w_LESS)])) _
          refine st28.trans ?_
          show Steps p.tables e below (T28.setTop (mkF m 121 #[.val (.int p1), .val (.int (f0_v6 p1)), .val (.ref w_LESS), .val (.int (f0_s0_81_5 p1)), .val (.ref y_LESS), .val (.int (f2 y_LESS (0 : Int32) w_CS k_LESS v_LESS z_v_LESS c_v_LESS)), .val (.int (f0_s0_115_6 w_CS y_LESS k_LESS v_LESS z_v_LESS c_v_LESS))] [(.int (f7 w_LESS w_EQUAL w_NOT_EQUAL))])) _
          refine XS.iloadN X28.here hx rfl (hb hby at_121) rfl ?_
          exact k
        by_cases hc122 : (f7 w_LESS w_EQUAL w_NOT_EQUAL) = (f0_s0_81_5 p1)
        · have pre45 : ∀ t, Steps p.tables e below (T28.setTop (mkF m 128 #[.val (.int p1), .val (.int (f0_v6 p1)), .val (.ref w_LESS), .val (.int (f0_s0_81_5 p1)), .val (.ref y_LESS), .val (.int (f2 y_LESS (0 : Int32) w_CS k_LESS v_LESS z_v_LESS c_v_LESS)), .val (.int (f0_s0_115_6 w_CS y_LESS k_LESS v_LESS z_v_LESS c_v_LESS))] [(.int (f0_s0_115_6 w_CS y_LESS k_LESS v_LESS z_v_LESS c_v_LESS)), (.int (f0_s0_81_5 p1))])) t → Steps p.tables e below (s₁.setTop (entryFrame m #[(.int p1)] maxLocals)) t := by
            intro t k
            refine pre44 t ?_
            show Steps p.tables e below (T28.setTop (mkF m 122 #[.val (.int p1), .val (.int (f0_v6 p1)), .val (.ref w_LESS), .val (.int (f0_s0_81_5 p1)), .val (.ref y_LESS), .val (.int (f2 y_LESS (0 : Int32) w_CS k_LESS v_LESS z_v_LESS c_v_LESS)), .val (.int (f0_s0_115_6 w_CS y_LESS k_LESS v_LESS z_v_LESS c_v_LESS))] [(.int (f0_s0_81_5 p1)), (.int (f7 w_LESS w_EQUAL w_NOT_EQUAL))])) _
            refine XS.icmpNo X28.here hx rfl (hb hby at_122) rfl (teq hc122).2 ?_
            show Steps p.tables e below (T28.setTop (mkF m 125 #[.val (.int p1), .val (.int (f0_v6 p1)), .val (.ref w_LESS), .val (.int (f0_s0_81_5 p1)), .val (.ref y_LESS), .val (.int (f2 y_LESS (0 : Int32) w_CS k_LESS v_LESS z_v_LESS c_v_LESS)), .val (.int (f0_s0_115_6 w_CS y_LESS k_LESS v_LESS z_v_LESS c_v_LESS))] [])) _
            refine XS.iloadN X28.here hx rfl (hb hby at_125) rfl ?_
            show Steps p.tables e below (T28.setTop (mkF m 126 #[.val (.int p1), .val (.int (f0_v6 p1)), .val (.ref w_LESS), .val (.int (f0_s0_81_5 p1)), .val (.ref y_LESS), .val (.int (f2 y_LESS (0 : Int32) w_CS k_LESS v_LESS z_v_LESS c_v_LESS)), .val (.int (f0_s0_115_6 w_CS y_LESS k_LESS v_LESS z_v_LESS c_v_LESS))] [(.int (f0_s0_81_5 p1))])) _
            refine XS.iload X28.here hx rfl (hb hby at_126) rfl ?_
            exact k
          by_cases hc128 : (f0_s0_81_5 p1) = (f0_s0_115_6 w_CS y_LESS k_LESS v_LESS z_v_LESS c_v_LESS)
          · have eq46 : (f0 p1 w_EQUAL w_NOT_EQUAL w_LESS w_LESS_OR_EQUAL w_GREATER w_GREATER_OR_EQUAL w_CS y_EQUAL k_EQUAL v_EQUAL z_v_EQUAL c_v_EQUAL y_NOT_EQUAL k_NOT_EQUAL v_NOT_EQUAL z_v_NOT_EQUAL c_v_NOT_EQUAL y_LESS k_LESS v_LESS z_v_LESS c_v_LESS y_LESS_OR_EQUAL k_LESS_OR_EQUAL v_LESS_OR_EQUAL z_v_LESS_OR_EQUAL c_v_LESS_OR_EQUAL y_GREATER k_GREATER v_GREATER z_v_GREATER c_v_GREATER y_GREATER_OR_EQUAL k_GREATER_OR_EQUAL v_GREATER_OR_EQUAL z_v_GREATER_OR_EQUAL c_v_GREATER_OR_EQUAL) = (1 : Int32) := by unfold f0; simp only [if_neg hc9, if_neg hc21, if_pos hc33, if_pos hc122, if_pos hc128]
            obtain ⟨fs, hr, hrun, hended, hW, hsame⟩ := X28.leave (v := some (.int (1 : Int32))) (fun h => by rw [Bd.returns] at h; cases h)
            refine ⟨_, _, pre45 _ ?_, hrun, hended, _, _, rfl, ?_, ⟨_, rfl⟩, hW, hsame.mono (by decide) (by decide)⟩
            · show Steps p.tables e below (T28.setTop (mkF m 128 #[.val (.int p1), .val (.int (f0_v6 p1)), .val (.ref w_LESS), .val (.int (f0_s0_81_5 p1)), .val (.ref y_LESS), .val (.int (f2 y_LESS (0 : Int32) w_CS k_LESS v_LESS z_v_LESS c_v_LESS)), .val (.int (f0_s0_115_6 w_CS y_LESS k_LESS v_LESS z_v_LESS c_v_LESS))] [(.int (f0_s0_115_6 w_CS y_LESS k_LESS v_LESS z_v_LESS c_v_LESS)), (.int (f0_s0_81_5 p1))])) _
              refine XS.icmpNo X28.here hx rfl (hb hby at_128) rfl (teq hc128).2 ?_
              show Steps p.tables e below (T28.setTop (mkF m 131 #[.val (.int p1), .val (.int (f0_v6 p1)), .val (.ref w_LESS), .val (.int (f0_s0_81_5 p1)), .val (.ref y_LESS), .val (.int (f2 y_LESS (0 : Int32) w_CS k_LESS v_LESS z_v_LESS c_v_LESS)), .val (.int (f0_s0_115_6 w_CS y_LESS k_LESS v_LESS z_v_LESS c_v_LESS))] [])) _
              refine XS.iconst X28.here hx rfl (hb hby at_131) ?_
              show Steps p.tables e below (T28.setTop (mkF m 132 #[.val (.int p1), .val (.int (f0_v6 p1)), .val (.ref w_LESS), .val (.int (f0_s0_81_5 p1)), .val (.ref y_LESS), .val (.int (f2 y_LESS (0 : Int32) w_CS k_LESS v_LESS z_v_LESS c_v_LESS)), .val (.int (f0_s0_115_6 w_CS y_LESS k_LESS v_LESS z_v_LESS c_v_LESS))] [(.int (1 : Int32))])) _
              refine XS.goto X28.here hx rfl (pc0 := 132) (pc' := 136) rfl (hb hby at_132) (by decide) (by decide) ?_
              show Steps p.tables e below (T28.setTop (mkF m 136 #[.val (.int p1), .val (.int (f0_v6 p1)), .val (.ref w_LESS), .val (.int (f0_s0_81_5 p1)), .val (.ref y_LESS), .val (.int (f2 y_LESS (0 : Int32) w_CS k_LESS v_LESS z_v_LESS c_v_LESS)), .val (.int (f0_s0_115_6 w_CS y_LESS k_LESS v_LESS z_v_LESS c_v_LESS))] [(.int (1 : Int32))])) _
              exact retN X28 hx (t := .boolean) Bd.returns (by simp) (hb hby at_136) hr
            · show Q0 Z p1 w_EQUAL w_NOT_EQUAL w_LESS w_LESS_OR_EQUAL w_GREATER w_GREATER_OR_EQUAL w_CS w_SIO y_EQUAL k_EQUAL v_EQUAL z_v_EQUAL c_v_EQUAL y_NOT_EQUAL k_NOT_EQUAL v_NOT_EQUAL z_v_NOT_EQUAL c_v_NOT_EQUAL y_LESS k_LESS v_LESS z_v_LESS c_v_LESS y_LESS_OR_EQUAL k_LESS_OR_EQUAL v_LESS_OR_EQUAL z_v_LESS_OR_EQUAL c_v_LESS_OR_EQUAL y_GREATER k_GREATER v_GREATER z_v_GREATER c_v_GREATER y_GREATER_OR_EQUAL k_GREATER_OR_EQUAL v_GREATER_OR_EQUAL z_v_GREATER_OR_EQUAL c_v_GREATER_OR_EQUAL h0 n0 _ T28.heap _
              rw [e28]
              exact ⟨by rw [eq46], N28, trivial⟩
          · have eq47 : (f0 p1 w_EQUAL w_NOT_EQUAL w_LESS w_LESS_OR_EQUAL w_GREATER w_GREATER_OR_EQUAL w_CS y_EQUAL k_EQUAL v_EQUAL z_v_EQUAL c_v_EQUAL y_NOT_EQUAL k_NOT_EQUAL v_NOT_EQUAL z_v_NOT_EQUAL c_v_NOT_EQUAL y_LESS k_LESS v_LESS z_v_LESS c_v_LESS y_LESS_OR_EQUAL k_LESS_OR_EQUAL v_LESS_OR_EQUAL z_v_LESS_OR_EQUAL c_v_LESS_OR_EQUAL y_GREATER k_GREATER v_GREATER z_v_GREATER c_v_GREATER y_GREATER_OR_EQUAL k_GREATER_OR_EQUAL v_GREATER_OR_EQUAL z_v_GREATER_OR_EQUAL c_v_GREATER_OR_EQUAL) = (0 : Int32) := by unfold f0; simp only [if_neg hc9, if_neg hc21, if_pos hc33, if_pos hc122, if_neg hc128]
            obtain ⟨fs, hr, hrun, hended, hW, hsame⟩ := X28.leave (v := some (.int (0 : Int32))) (fun h => by rw [Bd.returns] at h; cases h)
            refine ⟨_, _, pre45 _ ?_, hrun, hended, _, _, rfl, ?_, ⟨_, rfl⟩, hW, hsame.mono (by decide) (by decide)⟩
            · show Steps p.tables e below (T28.setTop (mkF m 128 #[.val (.int p1), .val (.int (f0_v6 p1)), .val (.ref w_LESS), .val (.int (f0_s0_81_5 p1)), .val (.ref y_LESS), .val (.int (f2 y_LESS (0 : Int32) w_CS k_LESS v_LESS z_v_LESS c_v_LESS)), .val (.int (f0_s0_115_6 w_CS y_LESS k_LESS v_LESS z_v_LESS c_v_LESS))] [(.int (f0_s0_115_6 w_CS y_LESS k_LESS v_LESS z_v_LESS c_v_LESS)), (.int (f0_s0_81_5 p1))])) _
              refine XS.icmpYes X28.here hx rfl (pc0 := 128) (pc' := 135) rfl (hb hby at_128) rfl (feq hc128).2 (by decide) (by decide) ?_
              show Steps p.tables e below (T28.setTop (mkF m 135 #[.val (.int p1), .val (.int (f0_v6 p1)), .val (.ref w_LESS), .val (.int (f0_s0_81_5 p1)), .val (.ref y_LESS), .val (.int (f2 y_LESS (0 : Int32) w_CS k_LESS v_LESS z_v_LESS c_v_LESS)), .val (.int (f0_s0_115_6 w_CS y_LESS k_LESS v_LESS z_v_LESS c_v_LESS))] [])) _
              refine XS.iconst X28.here hx rfl (hb hby at_135) ?_
              show Steps p.tables e below (T28.setTop (mkF m 136 #[.val (.int p1), .val (.int (f0_v6 p1)), .val (.ref w_LESS), .val (.int (f0_s0_81_5 p1)), .val (.ref y_LESS), .val (.int (f2 y_LESS (0 : Int32) w_CS k_LESS v_LESS z_v_LESS c_v_LESS)), .val (.int (f0_s0_115_6 w_CS y_LESS k_LESS v_LESS z_v_LESS c_v_LESS))] [(.int (0 : Int32))])) _
              exact retN X28 hx (t := .boolean) Bd.returns (by simp) (hb hby at_136) hr
            · show Q0 Z p1 w_EQUAL w_NOT_EQUAL w_LESS w_LESS_OR_EQUAL w_GREATER w_GREATER_OR_EQUAL w_CS w_SIO y_EQUAL k_EQUAL v_EQUAL z_v_EQUAL c_v_EQUAL y_NOT_EQUAL k_NOT_EQUAL v_NOT_EQUAL z_v_NOT_EQUAL c_v_NOT_EQUAL y_LESS k_LESS v_LESS z_v_LESS c_v_LESS y_LESS_OR_EQUAL k_LESS_OR_EQUAL v_LESS_OR_EQUAL z_v_LESS_OR_EQUAL c_v_LESS_OR_EQUAL y_GREATER k_GREATER v_GREATER z_v_GREATER c_v_GREATER y_GREATER_OR_EQUAL k_GREATER_OR_EQUAL v_GREATER_OR_EQUAL z_v_GREATER_OR_EQUAL c_v_GREATER_OR_EQUAL h0 n0 _ T28.heap _
              rw [e28]
              exact ⟨by rw [eq47], N28, trivial⟩
        · have eq48 : (f0 p1 w_EQUAL w_NOT_EQUAL w_LESS w_LESS_OR_EQUAL w_GREATER w_GREATER_OR_EQUAL w_CS y_EQUAL k_EQUAL v_EQUAL z_v_EQUAL c_v_EQUAL y_NOT_EQUAL k_NOT_EQUAL v_NOT_EQUAL z_v_NOT_EQUAL c_v_NOT_EQUAL y_LESS k_LESS v_LESS z_v_LESS c_v_LESS y_LESS_OR_EQUAL k_LESS_OR_EQUAL v_LESS_OR_EQUAL z_v_LESS_OR_EQUAL c_v_LESS_OR_EQUAL y_GREATER k_GREATER v_GREATER z_v_GREATER c_v_GREATER y_GREATER_OR_EQUAL k_GREATER_OR_EQUAL v_GREATER_OR_EQUAL z_v_GREATER_OR_EQUAL c_v_GREATER_OR_EQUAL) = (0 : Int32) := by unfold f0; simp only [if_neg hc9, if_neg hc21, if_pos hc33, if_neg hc122]
          obtain ⟨fs, hr, hrun, hended, hW, hsame⟩ := X28.leave (v := some (.int (0 : Int32))) (fun h => by rw [Bd.returns] at h; cases h)
          refine ⟨_, _, pre44 _ ?_, hrun, hended, _, _, rfl, ?_, ⟨_, rfl⟩, hW, hsame.mono (by decide) (by decide)⟩
          · show Steps p.tables e below (T28.setTop (mkF m 122 #[.val (.int p1), .val (.int (f0_v6 p1)), .val (.ref w_LESS), .val (.int (f0_s0_81_5 p1)), .val (.ref y_LESS), .val (.int (f2 y_LESS (0 : Int32) w_CS k_LESS v_LESS z_v_LESS c_v_LESS)), .val (.int (f0_s0_115_6 w_CS y_LESS k_LESS v_LESS z_v_LESS c_v_LESS))] [(.int (f0_s0_81_5 p1)), (.int (f7 w_LESS w_EQUAL w_NOT_EQUAL))])) _
            refine XS.icmpYes X28.here hx rfl (pc0 := 122) (pc' := 135) rfl (hb hby at_122) rfl (feq hc122).2 (by decide) (by decide) ?_
            show Steps p.tables e below (T28.setTop (mkF m 135 #[.val (.int p1), .val (.int (f0_v6 p1)), .val (.ref w_LESS), .val (.int (f0_s0_81_5 p1)), .val (.ref y_LESS), .val (.int (f2 y_LESS (0 : Int32) w_CS k_LESS v_LESS z_v_LESS c_v_LESS)), .val (.int (f0_s0_115_6 w_CS y_LESS k_LESS v_LESS z_v_LESS c_v_LESS))] [])) _
            refine XS.iconst X28.here hx rfl (hb hby at_135) ?_
            show Steps p.tables e below (T28.setTop (mkF m 136 #[.val (.int p1), .val (.int (f0_v6 p1)), .val (.ref w_LESS), .val (.int (f0_s0_81_5 p1)), .val (.ref y_LESS), .val (.int (f2 y_LESS (0 : Int32) w_CS k_LESS v_LESS z_v_LESS c_v_LESS)), .val (.int (f0_s0_115_6 w_CS y_LESS k_LESS v_LESS z_v_LESS c_v_LESS))] [(.int (0 : Int32))])) _
            exact retN X28 hx (t := .boolean) Bd.returns (by simp) (hb hby at_136) hr
          · show Q0 Z p1 w_EQUAL w_NOT_EQUAL w_LESS w_LESS_OR_EQUAL w_GREATER w_GREATER_OR_EQUAL w_CS w_SIO y_EQUAL k_EQUAL v_EQUAL z_v_EQUAL c_v_EQUAL y_NOT_EQUAL k_NOT_EQUAL v_NOT_EQUAL z_v_NOT_EQUAL c_v_NOT_EQUAL y_LESS k_LESS v_LESS z_v_LESS c_v_LESS y_LESS_OR_EQUAL k_LESS_OR_EQUAL v_LESS_OR_EQUAL z_v_LESS_OR_EQUAL c_v_LESS_OR_EQUAL y_GREATER k_GREATER v_GREATER z_v_GREATER c_v_GREATER y_GREATER_OR_EQUAL k_GREATER_OR_EQUAL v_GREATER_OR_EQUAL z_v_GREATER_OR_EQUAL c_v_GREATER_OR_EQUAL h0 n0 _ T28.heap _
            rw [e28]
            exact ⟨by rw [eq48], N28, trivial⟩
      · have pre49 : ∀ t, Steps p.tables e below (s₁.setTop (mkF m 45 #[.val (.int p1), .val (.int (f0_v6 p1)), .unset, .unset, .unset, .unset, .unset] [(.int (3 : Int32)), (.int (f0_v6 p1))])) t → Steps p.tables e below (s₁.setTop (entryFrame m #[(.int p1)] maxLocals)) t := by
          intro t k
          refine pre33 t ?_
          show Steps p.tables e below (s₁.setTop (mkF m 33 #[.val (.int p1), .val (.int (f0_v6 p1)), .unset, .unset, .unset, .unset, .unset] [(.int (2 : Int32)), (.int (f0_v6 p1))])) _
          refine XS.icmpYes X0.here hx rfl (pc0 := 33) (pc' := 43) rfl (hb hby at_33) rfl (feq hc33).2 (by decide) (by decide) ?_
          show Steps p.tables e below (s₁.setTop (mkF m 43 #[.val (.int p1), .val (.int (f0_v6 p1)), .unset, .unset, .unset, .unset, .unset] [])) _
          refine XS.iloadN X0.here hx rfl (hb hby at_43) rfl ?_
          show Steps p.tables e below (s₁.setTop (mkF m 44 #[.val (.int p1), .val (.int (f0_v6 p1)), .unset, .unset, .unset, .unset, .unset] [(.int (f0_v6 p1))])) _
          refine XS.iconst X0.here hx rfl (hb hby at_44) ?_
          exact k
        by_cases hc45 : (f0_v6 p1) = (3 : Int32)
        · obtain ⟨T32, X32, e32, st32⟩ := getS2 X0 hx hZ hown (host := "") (Or.inl (hw _ (List.mem_of_getElem? (i := 45) rfl))) Via.refl e0 S_LESS_OR_EQUAL (g := (mkF m 48 #[.val (.int p1), .val (.int (f0_v6 p1)), .unset, .unset, .unset, .unset, .unset] [])) rfl (hb hby at_48)
          have pre50 : ∀ t, Steps p.tables e below (T32.setTop (mkF m 73 #[.val (.int p1), .val (.int (f0_v6 p1)), .val (.ref w_LESS_OR_EQUAL), .unset, .unset, .unset, .unset] [(.int (2 : Int32)), (.int (f0_v6 p1))])) t → Steps p.tables e below (s₁.setTop (entryFrame m #[(.int p1)] maxLocals)) t := by
            intro t k
            refine pre49 t ?_
            show Steps p.tables e below (s₁.setTop (mkF m 45 #[.val (.int p1), .val (.int (f0_v6 p1)), .unset, .unset, .unset, .unset, .unset] [(.int (3 : Int32)), (.int (f0_v6 p1))])) _
            refine XS.icmpNo X0.here hx rfl (hb hby at_45) rfl (teq hc45).2 ?_
            show Steps p.tables e below (s₁.setTop (mkF m 48 #[.val (.int p1), .val (.int (f0_v6 p1)), .unset, .unset, .unset, .unset, .unset] [])) _
            refine st32 _ ?_
            show Steps p.tables e below (T32.setTop (mkF m 51 #[.val (.int p1), .val (.int (f0_v6 p1)), .unset, .unset, .unset, .unset, .unset] [(.ref w_LESS_OR_EQUAL)])) _
            refine XS.astoreN X32.here hx rfl (hb hby at_51) rfl rfl (l' := #[.val (.int p1), .val (.int (f0_v6 p1)), .val (.ref w_LESS_OR_EQUAL), .unset, .unset, .unset, .unset]) rfl ?_
            show Steps p.tables e below (T32.setTop (mkF m 52 #[.val (.int p1), .val (.int (f0_v6 p1)), .val (.ref w_LESS_OR_EQUAL), .unset, .unset, .unset, .unset] [])) _
            refine XS.goto X32.here hx rfl (pc0 := 52) (pc' := 71) rfl (hb hby at_52) (by decide) (by decide) ?_
            show Steps p.tables e below (T32.setTop (mkF m 71 #[.val (.int p1), .val (.int (f0_v6 p1)), .val (.ref w_LESS_OR_EQUAL), .unset, .unset, .unset, .unset] [])) _
            refine XS.iloadN X32.here hx rfl (hb hby at_71) rfl ?_
            show Steps p.tables e below (T32.setTop (mkF m 72 #[.val (.int p1), .val (.int (f0_v6 p1)), .val (.ref w_LESS_OR_EQUAL), .unset, .unset, .unset, .unset] [(.int (f0_v6 p1))])) _
            refine XS.iconst X32.here hx rfl (hb hby at_72) ?_
            exact k
          have pre51 : ∀ t, Steps p.tables e below (T32.setTop (mkF m 81 #[.val (.int p1), .val (.int (f0_v6 p1)), .val (.ref w_LESS_OR_EQUAL), .unset, .unset, .unset, .unset] [(.int (f0_s0_81_7 p1))])) t → Steps p.tables e below (s₁.setTop (entryFrame m #[(.int p1)] maxLocals)) t := by
            intro t k
            by_cases hc73 : (f0_v6 p1) < (2 : Int32)
            · have eq52 := (show (f0_s0_81_7 p1) = (0 : Int32) from by unfold f0_s0_81_7; simp only [if_pos hc73])
              try rw [eq52] at k
              refine pre50 t ?_
              show Steps p.tables e below (T32.setTop (mkF m 73 #[.val (.int p1), .val (.int (f0_v6 p1)), .val (.ref w_LESS_OR_EQUAL), .unset, .unset, .unset, .unset] [(.int (2 : Int32)), (.int (f0_v6 p1))])) _
              refine XS.icmpYes X32.here hx rfl (pc0 := 73) (pc' := 80) rfl (hb hby at_73) rfl (tlt hc73).1 (by decide) (by decide) ?_
              show Steps p.tables e below (T32.setTop (mkF m 80 #[.val (.int p1), .val (.int (f0_v6 p1)), .val (.ref w_LESS_OR_EQUAL), .unset, .unset, .unset, .unset] [])) _
              refine XS.iconst X32.here hx rfl (hb hby at_80) ?_
              exact k
            · have eq53 := (show (f0_s0_81_7 p1) = (1 : Int32) from by unfold f0_s0_81_7; simp only [if_neg hc73])
              try rw [eq53] at k
              refine pre50 t ?_
              show Steps p.tables e below (T32.setTop (mkF m 73 #[.val (.int p1), .val (.int (f0_v6 p1)), .val (.ref w_LESS_OR_EQUAL), .unset, .unset, .unset, .unset] [(.int (2 : Int32)), (.int (f0_v6 p1))])) _
              refine XS.icmpNo X32.here hx rfl (hb hby at_73) rfl (flt hc73).1 ?_
              show Steps p.tables e below (T32.setTop (mkF m 76 #[.val (.int p1), .val (.int (f0_v6 p1)), .val (.ref w_LESS_OR_EQUAL), .unset, .unset, .unset, .unset] [])) _
              refine XS.iconst X32.here hx rfl (hb hby at_76) ?_
              show Steps p.tables e below (T32.setTop (mkF m 77 #[.val (.int p1), .val (.int (f0_v6 p1)), .val (.ref w_LESS_OR_EQUAL), .unset, .unset, .unset, .unset] [(.int (1 : Int32))])) _
              refine XS.goto X32.here hx rfl (pc0 := 77) (pc' := 81) rfl (hb hby at_77) (by decide) (by decide) ?_
              exact k
          obtain ⟨cq33, kq33, q33a, q33b, q33c⟩ := isOf hZ e32 E_w_LESS_OR_EQUAL
          obtain ⟨_, _, ⟨T33, L33, k33, n33⟩, -, X33, ⟨Lc33, hQ33, l33, y33, z33⟩, st33⟩ := X32.virtualBack hx (y := (⟨"com/example/inline_monitor/inlinemonitor/model/Guard$Relation", "symbol", "()Ljava/lang/String;"⟩ : MethodName)) (z := (⟨"com/example/inline_monitor/inlinemonitor/model/Guard$Relation", "symbol", "()Ljava/lang/String;"⟩ : MethodName)) hown (mvT hZ (hw _ (List.mem_of_getElem? (i := 4) rfl))) (mvT hZ (hw _ (List.mem_of_getElem? (i := 5) rfl))) (notFace_of_selects (args := #[]) (mvT hZ (hw _ (List.mem_of_getElem? (i := 7) rfl)))) (mvT hZ (hw _ (List.mem_of_getElem? (i := 7) rfl))) (mvT hZ (hw _ (List.mem_of_getElem? (i := 6) rfl))) (by decide) (backOf (W := 0) (rm1 l Z a0 hw [] w_LESS_OR_EQUAL y_LESS_OR_EQUAL h0 n0 Z0 F_symbol_w_LESS_OR_EQUAL) hZ (hw _ (List.mem_of_getElem? (i := 8) rfl)) (hw _ (List.mem_of_getElem? (i := 2) rfl)) (by decide) (by decide)) q33a q33c (g := (mkF m 83 #[.val (.int p1), .val (.int (f0_v6 p1)), .val (.ref w_LESS_OR_EQUAL), .val (.int (f0_s0_81_7 p1)), .unset, .unset, .unset] [(.ref w_LESS_OR_EQUAL)])) rfl (by rw [hml]; rfl) (Steps.refl _) (argsL := []) (rest := []) (lenOf pd_4 rfl) rfl (by show 2 * 0 + _ ≤ _; exact Nat.le_of_eq rfl) (hb hby at_83) (fun _ _ => ⟨rfl, e32, (by decide : 0 + 0 ≤ _), (by decide : 0 + 0 ≤ _)⟩)
          dsimp only [Pt.U, Pt.locs, Pt.cells, Pt.slots] at X33 l33 y33 z33 st33 hQ33
          subst l33 y33 z33
          obtain ⟨rfl, N33q, e33⟩ := hQ33
          have N33 := Fr.app N0 N33q
          obtain ⟨cq34, kq34, q34a, q34b, q34c⟩ := isOf hZ e33 E_y_LESS_OR_EQUAL
          obtain ⟨_, _, ⟨T34, L34, k34, n34⟩, -, X34, ⟨Lc34, hQ34, l34, y34, z34⟩, st34⟩ := X33.virtualBack hx (y := (⟨"java/lang/String", "charAt", "(I)C"⟩ : MethodName)) (z := (⟨"java/lang/String", "charAt", "(I)C"⟩ : MethodName)) hown (mvT hZ (hw _ (List.mem_of_getElem? (i := 11) rfl))) (mvT hZ (hw _ (List.mem_of_getElem? (i := 12) rfl))) (notFace_of_selects (args := #[]) (mvT hZ (hw _ (List.mem_of_getElem? (i := 14) rfl)))) (mvT hZ (hw _ (List.mem_of_getElem? (i := 14) rfl))) (mvT hZ (hw _ (List.mem_of_getElem? (i := 13) rfl))) (by decide) (backOf (W := 0) (rm2 l Z a0 hw [] y_LESS_OR_EQUAL (0 : Int32) w_CS k_LESS_OR_EQUAL v_LESS_OR_EQUAL z_v_LESS_OR_EQUAL c_v_LESS_OR_EQUAL w_SIO h0 n0 Z0 E_y_LESS_OR_EQUAL S_COMPACT_STRINGS hcs F_coder_y_LESS_OR_EQUAL hk_LESS_OR_EQUAL F_value_y_LESS_OR_EQUAL V_v_LESS_OR_EQUAL S_SIOOBE_FORMATTER hcat ⟨by decide, hl_LESS_OR_EQUAL⟩) hZ (hw _ (List.mem_of_getElem? (i := 16) rfl)) (hw _ (List.mem_of_getElem? (i := 15) rfl)) (by decide) (by decide)) q34a q34c (g := (mkF m 91 #[.val (.int p1), .val (.int (f0_v6 p1)), .val (.ref w_LESS_OR_EQUAL), .val (.int (f0_s0_81_7 p1)), .val (.ref y_LESS_OR_EQUAL), .unset, .unset] [(.int (0 : Int32)), (.ref y_LESS_OR_EQUAL)])) rfl (by rw [hml]; rfl) (Steps.refl _) (argsL := [(.int (0 : Int32))]) (rest := []) (lenOf pd_5 rfl) rfl (by show 2 * 0 + _ ≤ _; exact Nat.le_of_eq rfl) (hb hby at_91) (fun _ _ => ⟨rfl, e33, (by decide : 0 + 0 ≤ _), (by decide : 0 + 0 ≤ _)⟩)
          dsimp only [Pt.U, Pt.locs, Pt.cells, Pt.slots] at X34 l34 y34 z34 st34 hQ34
          subst l34 y34 z34
          obtain ⟨rfl, N34q, e34⟩ := hQ34
          have N34 := Fr.app N33 N34q
          have pre54 : ∀ t, Steps p.tables e below (T34.setTop (mkF m 100 #[.val (.int p1), .val (.int (f0_v6 p1)), .val (.ref w_LESS_OR_EQUAL), .val (.int (f0_s0_81_7 p1)), .val (.ref y_LESS_OR_EQUAL), .val (.int (f0_v94 w_CS y_LESS_OR_EQUAL k_LESS_OR_EQUAL v_LESS_OR_EQUAL z_v_LESS_OR_EQUAL c_v_LESS_OR_EQUAL)), .unset] [(.int (60 : Int32)), (.int (f0_v94 w_CS y_LESS_OR_EQUAL k_LESS_OR_EQUAL v_LESS_OR_EQUAL z_v_LESS_OR_EQUAL c_v_LESS_OR_EQUAL))])) t → Steps p.tables e below (s₁.setTop (entryFrame m #[(.int p1)] maxLocals)) t := by
            intro t k
            refine pre51 t ?_
            show Steps p.tables e below (T32.setTop (mkF m 81 #[.val (.int p1), .val (.int (f0_v6 p1)), .val (.ref w_LESS_OR_EQUAL), .unset, .unset, .unset, .unset] [(.int (f0_s0_81_7 p1))])) _
            refine XS.istoreN X32.here hx rfl (hb hby at_81) rfl (l' := #[.val (.int p1), .val (.int (f0_v6 p1)), .val (.ref w_LESS_OR_EQUAL), .val (.int (f0_s0_81_7 p1)), .unset, .unset, .unset]) rfl ?_
            show Steps p.tables e below (T32.setTop (mkF m 82 #[.val (.int p1), .val (.int (f0_v6 p1)), .val (.ref w_LESS_OR_EQUAL), .val (.int (f0_s0_81_7 p1)), .unset, .unset, .unset] [])) _
            refine XS.aloadN X32.here hx rfl (hb hby at_82) rfl rfl ?_
            show Steps p.tables e below (T32.setTop (mkF m 83 #[.val (.int p1), .val (.int (f0_v6 p1)), .val (.ref w_LESS_OR_EQUAL), .val (.int (f0_s0_81_7 p1)), .unset, .unset, .unset] [(.ref w_LESS_OR_EQUAL)])) _
            refine st33.trans ?_
            show Steps p.tables e below (T33.setTop (mkF m 86 #[.val (.int p1), .val (.int (f0_v6 p1)), .val (.ref w_LESS_OR_EQUAL), .val (.int (f0_s0_81_7 p1)), .unset, .unset, .unset] [(.ref y_LESS_OR_EQUAL)])) _
            refine XS.astore X33.here hx rfl (hb hby at_86) rfl rfl (l' := #[.val (.int p1), .val (.int (f0_v6 p1)), .val (.ref w_LESS_OR_EQUAL), .val (.int (f0_s0_81_7 p1)), .val (.ref y_LESS_OR_EQUAL), .unset, .unset]) rfl ?_
            show Steps p.tables e below (T33.setTop (mkF m 88 #[.val (.int p1), .val (.int (f0_v6 p1)), .val (.ref w_LESS_OR_EQUAL), .val (.int (f0_s0_81_7 p1)), .val (.ref y_LESS_OR_EQUAL), .unset, .unset] [])) _
            refine XS.aload X33.here hx rfl (hb hby at_88) rfl rfl ?_
            show Steps p.tables e below (T33.setTop (mkF m 90 #[.val (.int p1), .val (.int (f0_v6 p1)), .val (.ref w_LESS_OR_EQUAL), .val (.int (f0_s0_81_7 p1)), .val (.ref y_LESS_OR_EQUAL), .unset, .unset] [(.ref y_LESS_OR_EQUAL)])) _
            refine XS.iconst X33.here hx rfl (hb hby at_90) ?_
            show Steps p.tables e below (T33.setTop (mkF m 91 #[.val (.int p1), .val (.int (f0_v6 p1)), .val (.ref w_LESS_OR_EQUAL), .val (.int (f0_s0_81_7 p1)), .val (.ref y_LESS_OR_EQUAL), .unset, .unset] [(.int (0 : Int32)), (.ref y_LESS_OR_EQUAL)])) _
            refine st34.trans ?_
            show Steps p.tables e below (T34.setTop (mkF m 94 #[.val (.int p1), .val (.int (f0_v6 p1)), .val (.ref w_LESS_OR_EQUAL), .val (.int (f0_s0_81_7 p1)), .val (.ref y_LESS_OR_EQUAL), .unset, .unset] [(.int (f2 y_LESS_OR_EQUAL (0 : Int32) w_CS k_LESS_OR_EQUAL v_LESS_OR_EQUAL z_v_LESS_OR_EQUAL c_v_LESS_OR_EQUAL))])) _
            refine XS.istore X34.here hx rfl (hb hby at_94) rfl (l' := #[.val (.int p1), .val (.int (f0_v6 p1)), .val (.ref w_LESS_OR_EQUAL), .val (.int (f0_s0_81_7 p1)), .val (.ref y_LESS_OR_EQUAL), .val (.int (f0_v94 w_CS y_LESS_OR_EQUAL k_LESS_OR_EQUAL v_LESS_OR_EQUAL z_v_LESS_OR_EQUAL c_v_LESS_OR_EQUAL)), .unset]) rfl ?_
            show Steps p.tables e below (T34.setTop (mkF m 96 #[.val (.int p1), .val (.int (f0_v6 p1)), .val (.ref w_LESS_OR_EQUAL), .val (.int (f0_s0_81_7 p1)), .val (.ref y_LESS_OR_EQUAL), .val (.int (f0_v94 w_CS y_LESS_OR_EQUAL k_LESS_OR_EQUAL v_LESS_OR_EQUAL z_v_LESS_OR_EQUAL c_v_LESS_OR_EQUAL)), .unset] [])) _
            refine XS.iload X34.here hx rfl (hb hby at_96) rfl ?_
            show Steps p.tables e below (T34.setTop (mkF m 98 #[.val (.int p1), .val (.int (f0_v6 p1)), .val (.ref w_LESS_OR_EQUAL), .val (.int (f0_s0_81_7 p1)), .val (.ref y_LESS_OR_EQUAL), .val (.int (f0_v94 w_CS y_LESS_OR_EQUAL k_LESS_OR_EQUAL v_LESS_OR_EQUAL z_v_LESS_OR_EQUAL c_v_LESS_OR_EQUAL)), .unset] [(.int (f0_v94 w_CS y_LESS_OR_EQUAL k_LESS_OR_EQUAL v_LESS_OR_EQUAL z_v_LESS_OR_EQUAL c_v_LESS_OR_EQUAL))])) _
            refine XS.bipush X34.here hx rfl (hb hby at_98) ?_
            exact k
          have pre55 : ∀ t, Steps p.tables e below (T34.setTop (mkF m 115 #[.val (.int p1), .val (.int (f0_v6 p1)), .val (.ref w_LESS_OR_EQUAL), .val (.int (f0_s0_81_7 p1)), .val (.ref y_LESS_OR_EQUAL), .val (.int (f0_v94 w_CS y_LESS_OR_EQUAL k_LESS_OR_EQUAL v_LESS_OR_EQUAL z_v_LESS_OR_EQUAL c_v_LESS_OR_EQUAL)), .unset] [(.int (f0_s0_115_8 w_CS y_LESS_OR_EQUAL k_LESS_OR_EQUAL v_LESS_OR_EQUAL z_v_LESS_OR_EQUAL c_v_LESS_OR_EQUAL))])) t → Steps p.tables e below (s₁.setTop (entryFrame m #[(.int p1)] maxLocals)) t := by
            intro t k
            by_cases hc100 : (f0_v94 w_CS y_LESS_OR_EQUAL k_LESS_OR_EQUAL v_LESS_OR_EQUAL z_v_LESS_OR_EQUAL c_v_LESS_OR_EQUAL) = (60 : Int32)
            · have eq56 := (show (f0_s0_115_8 w_CS y_LESS_OR_EQUAL k_LESS_OR_EQUAL v_LESS_OR_EQUAL z_v_LESS_OR_EQUAL c_v_LESS_OR_EQUAL) = (1 : Int32) from by unfold f0_s0_115_8; simp only [if_pos hc100])
              try rw [eq56] at k
              refine pre54 t ?_
              show Steps p.tables e below (T34.setTop (mkF m 100 #[.val (.int p1), .val (.int (f0_v6 p1)), .val (.ref w_LESS_OR_EQUAL), .val (.int (f0_s0_81_7 p1)), .val (.ref y_LESS_OR_EQUAL), .val (.int (f0_v94 w_CS y_LESS_OR_EQUAL k_LESS_OR_EQUAL v_LESS_OR_EQUAL z_v_LESS_OR_EQUAL c_v_LESS_OR_EQUAL)), .unset] [(.int (60 : Int32)), (.int (f0_v94 w_CS y_LESS_OR_EQUAL k_LESS_OR_EQUAL v_LESS_OR_EQUAL z_v_LESS_OR_EQUAL c_v_LESS_OR_EQUAL))])) _
              refine XS.icmpYes X34.here hx rfl (pc0 := 100) (pc' := 110) rfl (hb hby at_100) rfl (teq hc100).1 (by decide) (by decide) ?_
              show Steps p.tables e below (T34.setTop (mkF m 110 #[.val (.int p1), .val (.int (f0_v6 p1)), .val (.ref w_LESS_OR_EQUAL), .val (.int (f0_s0_81_7 p1)), .val (.ref y_LESS_OR_EQUAL), .val (.int (f0_v94 w_CS y_LESS_OR_EQUAL k_LESS_OR_EQUAL v_LESS_OR_EQUAL z_v_LESS_OR_EQUAL c_v_LESS_OR_EQUAL)), .unset] [])) _
              refine XS.iconst X34.here hx rfl (hb hby at_110) ?_
              show Steps p.tables e below (T34.setTop (mkF m 111 #[.val (.int p1), .val (.int (f0_v6 p1)), .val (.ref w_LESS_OR_EQUAL), .val (.int (f0_s0_81_7 p1)), .val (.ref y_LESS_OR_EQUAL), .val (.int (f0_v94 w_CS y_LESS_OR_EQUAL k_LESS_OR_EQUAL v_LESS_OR_EQUAL z_v_LESS_OR_EQUAL c_v_LESS_OR_EQUAL)), .unset] [(.int (1 : Int32))])) _
              refine XS.goto X34.here hx rfl (pc0 := 111) (pc' := 115) rfl (hb hby at_111) (by decide) (by decide) ?_
              exact k
            · have pre57 : ∀ t, Steps p.tables e below (T34.setTop (mkF m 107 #[.val (.int p1), .val (.int (f0_v6 p1)), .val (.ref w_LESS_OR_EQUAL), .val (.int (f0_s0_81_7 p1)), .val (.ref y_LESS_OR_EQUAL), .val (.int (f0_v94 w_CS y_LESS_OR_EQUAL k_LESS_OR_EQUAL v_LESS_OR_EQUAL z_v_LESS_OR_EQUAL c_v_LESS_OR_EQUAL)), .unset] [(.int (62 : Int32)), (.int (f0_v94 w_CS y_LESS_OR_EQUAL k_LESS_OR_EQUAL v_LESS_OR_EQUAL z_v_LESS_OR_EQUAL c_v_LESS_OR_EQUAL))])) t → Steps p.tables e below (s₁.setTop (entryFrame m #[(.int p1)] maxLocals)) t := by
                intro t k
                refine pre54 t ?_
                show Steps p.tables e below (T34.setTop (mkF m 100 #[.val (.int p1), .val (.int (f0_v6 p1)), .val (.ref w_LESS_OR_EQUAL), .val (.int (f0_s0_81_7 p1)), .val (.ref y_LESS_OR_EQUAL), .val (.int (f0_v94 w_CS y_LESS_OR_EQUAL k_LESS_OR_EQUAL v_LESS_OR_EQUAL z_v_LESS_OR_EQUAL c_v_LESS_OR_EQUAL)), .unset] [(.int (60 : Int32)), (.int (f0_v94 w_CS y_LESS_OR_EQUAL k_LESS_OR_EQUAL v_LESS_OR_EQUAL z_v_LESS_OR_EQUAL c_v_LESS_OR_EQUAL))])) _
                refine XS.icmpNo X34.here hx rfl (hb hby at_100) rfl (feq hc100).1 ?_
                show Steps p.tables e below (T34.setTop (mkF m 103 #[.val (.int p1), .val (.int (f0_v6 p1)), .val (.ref w_LESS_OR_EQUAL), .val (.int (f0_s0_81_7 p1)), .val (.ref y_LESS_OR_EQUAL), .val (.int (f0_v94 w_CS y_LESS_OR_EQUAL k_LESS_OR_EQUAL v_LESS_OR_EQUAL z_v_LESS_OR_EQUAL c_v_LESS_OR_EQUAL)), .unset] [])) _
                refine XS.iload X34.here hx rfl (hb hby at_103) rfl ?_
                show Steps p.tables e below (T34.setTop (mkF m 105 #[.val (.int p1), .val (.int (f0_v6 p1)), .val (.ref w_LESS_OR_EQUAL), .val (.int (f0_s0_81_7 p1)), .val (.ref y_LESS_OR_EQUAL), .val (.int (f0_v94 w_CS y_LESS_OR_EQUAL k_LESS_OR_EQUAL v_LESS_OR_EQUAL z_v_LESS_OR_EQUAL c_v_LESS_OR_EQUAL)), .unset] [(.int (f0_v94 w_CS y_LESS_OR_EQUAL k_LESS_OR_EQUAL v_LESS_OR_EQUAL z_v_LESS_OR_EQUAL c_v_LESS_OR_EQUAL))])) _
                refine XS.bipush X34.here hx rfl (hb hby at_105) ?_
                exact k
              by_cases hc107 : (f0_v94 w_CS y_LESS_OR_EQUAL k_LESS_OR_EQUAL v_LESS_OR_EQUAL z_v_LESS_OR_EQUAL c_v_LESS_OR_EQUAL) = (62 : Int32)
              · have eq58 := (show (f0_s0_115_8 w_CS y_LESS_OR_EQUAL k_LESS_OR_EQUAL v_LESS_OR_EQUAL z_v_LESS_OR_EQUAL c_v_LESS_OR_EQUAL) = (1 : Int32) from by unfold f0_s0_115_8; simp only [if_neg hc100, if_pos hc107])
                try rw [eq58] at k
                refine pre57 t ?_
                show Steps p.tables e below (T34.setTop (mkF m 107 #[.val (.int p1), .val (.int (f0_v6 p1)), .val (.ref w_LESS_OR_EQUAL), .val (.int (f0_s0_81_7 p1)), .val (.ref y_LESS_OR_EQUAL), .val (.int (f0_v94 w_CS y_LESS_OR_EQUAL k_LESS_OR_EQUAL v_LESS_OR_EQUAL z_v_LESS_OR_EQUAL c_v_LESS_OR_EQUAL)), .unset] [(.int (62 : Int32)), (.int (f0_v94 w_CS y_LESS_OR_EQUAL k_LESS_OR_EQUAL v_LESS_OR_EQUAL z_v_LESS_OR_EQUAL c_v_LESS_OR_EQUAL))])) _
                refine XS.icmpNo X34.here hx rfl (hb hby at_107) rfl (teq hc107).2 ?_
                show Steps p.tables e below (T34.setTop (mkF m 110 #[.val (.int p1), .val (.int (f0_v6 p1)), .val (.ref w_LESS_OR_EQUAL), .val (.int (f0_s0_81_7 p1)), .val (.ref y_LESS_OR_EQUAL), .val (.int (f0_v94 w_CS y_LESS_OR_EQUAL k_LESS_OR_EQUAL v_LESS_OR_EQUAL z_v_LESS_OR_EQUAL c_v_LESS_OR_EQUAL)), .unset] [])) _
                refine XS.iconst X34.here hx rfl (hb hby at_110) ?_
                show Steps p.tables e below (T34.setTop (mkF m 111 #[.val (.int p1), .val (.int (f0_v6 p1)), .val (.ref w_LESS_OR_EQUAL), .val (.int (f0_s0_81_7 p1)), .val (.ref y_LESS_OR_EQUAL), .val (.int (f0_v94 w_CS y_LESS_OR_EQUAL k_LESS_OR_EQUAL v_LESS_OR_EQUAL z_v_LESS_OR_EQUAL c_v_LESS_OR_EQUAL)), .unset] [(.int (1 : Int32))])) _
                refine XS.goto X34.here hx rfl (pc0 := 111) (pc' := 115) rfl (hb hby at_111) (by decide) (by decide) ?_
                exact k
              · have eq59 := (show (f0_s0_115_8 w_CS y_LESS_OR_EQUAL k_LESS_OR_EQUAL v_LESS_OR_EQUAL z_v_LESS_OR_EQUAL c_v_LESS_OR_EQUAL) = (0 : Int32) from by unfold f0_s0_115_8; simp only [if_neg hc100, if_neg hc107])
                try rw [eq59] at k
                refine pre57 t ?_
                show Steps p.tables e below (T34.setTop (mkF m 107 #[.val (.int p1), .val (.int (f0_v6 p1)), .val (.ref w_LESS_OR_EQUAL), .val (.int (f0_s0_81_7 p1)), .val (.ref y_LESS_OR_EQUAL), .val (.int (f0_v94 w_CS y_LESS_OR_EQUAL k_LESS_OR_EQUAL v_LESS_OR_EQUAL z_v_LESS_OR_EQUAL c_v_LESS_OR_EQUAL)), .unset] [(.int (62 : Int32)), (.int (f0_v94 w_CS y_LESS_OR_EQUAL k_LESS_OR_EQUAL v_LESS_OR_EQUAL z_v_LESS_OR_EQUAL c_v_LESS_OR_EQUAL))])) _
                refine XS.icmpYes X34.here hx rfl (pc0 := 107) (pc' := 114) rfl (hb hby at_107) rfl (feq hc107).2 (by decide) (by decide) ?_
                show Steps p.tables e below (T34.setTop (mkF m 114 #[.val (.int p1), .val (.int (f0_v6 p1)), .val (.ref w_LESS_OR_EQUAL), .val (.int (f0_s0_81_7 p1)), .val (.ref y_LESS_OR_EQUAL), .val (.int (f0_v94 w_CS y_LESS_OR_EQUAL k_LESS_OR_EQUAL v_LESS_OR_EQUAL z_v_LESS_OR_EQUAL c_v_LESS_OR_EQUAL)), .unset] [])) _
                refine XS.iconst X34.here hx rfl (hb hby at_114) ?_
                exact k
          obtain ⟨cq35, kq35, q35a, q35b, q35c⟩ := isOf hZ e34 E_w_LESS_OR_EQUAL
          obtain ⟨_, _, ⟨T35, L35, k35, n35⟩, -, X35, ⟨Lc35, hQ35, l35, y35, z35⟩, st35⟩ := X34.virtualBack hx (y := (⟨"com/example/inline_monitor/inlinemonitor/model/Guard$Relation", "isOrdering", "()Z"⟩ : MethodName)) (z := (⟨"com/example/inline_monitor/inlinemonitor/model/Guard$Relation", "isOrdering", "()Z"⟩ : MethodName)) hown (mvT hZ (hw _ (List.mem_of_getElem? (i := 39) rfl))) (mvT hZ (hw _ (List.mem_of_getElem? (i := 40) rfl))) (notFace_of_selects (args := #[]) (mvT hZ (hw _ (List.mem_of_getElem? (i := 42) rfl)))) (mvT hZ (hw _ (List.mem_of_getElem? (i := 42) rfl))) (mvT hZ (hw _ (List.mem_of_getElem? (i := 41) rfl))) (by decide) (backOf (W := 0) (rm7 l Z a0 hw [] w_LESS_OR_EQUAL w_EQUAL w_NOT_EQUAL h0 n0 Z0 S_EQUAL S_NOT_EQUAL) hZ (hw _ (List.mem_of_getElem? (i := 43) rfl)) (hw _ (List.mem_of_getElem? (i := 2) rfl)) (by decide) (by decide)) q35a q35c (g := (mkF m 118 #[.val (.int p1), .val (.int (f0_v6 p1)), .val (.ref w_LESS_OR_EQUAL), .val (.int (f0_s0_81_7 p1)), .val (.ref y_LESS_OR_EQUAL), .val (.int (f0_v94 w_CS y_LESS_OR_EQUAL k_LESS_OR_EQUAL v_LESS_OR_EQUAL z_v_LESS_OR_EQUAL c_v_LESS_OR_EQUAL)), .val (.int (f0_v115 w_CS y_LESS_OR_EQUAL k_LESS_OR_EQUAL v_LESS_OR_EQUAL z_v_LESS_OR_EQUAL c_v_LESS_OR_EQUAL))] [(.ref w_LESS_OR_EQUAL)])) rfl (by rw [hml]; rfl) (Steps.refl _) (argsL := []) (rest := []) (lenOf pd_2 rfl) rfl (by show 2 * 0 + _ ≤ _; exact Nat.le_of_eq rfl) (hb hby at_118) (fun _ _ => ⟨rfl, e34, (by decide : 0 + 0 ≤ _), (by decide : 0 + 0 ≤ _)⟩)
          dsimp only [Pt.U, Pt.locs, Pt.cells, Pt.slots] at X35 l35 y35 z35 st35 hQ35
          subst l35 y35 z35
          obtain ⟨rfl, N35q, e35⟩ := hQ35
          have N35 := Fr.app N34 N35q
          have pre60 : ∀ t, Steps p.tables e below (T35.setTop (mkF m 122 #[.val (.int p1), .val (.int (f0_v6 p1)), .val (.ref w_LESS_OR_EQUAL), .val (.int (f0_s0_81_7 p1)), .val (.ref y_LESS_OR_EQUAL), .val (.int (f0_v94 w_CS y_LESS_OR_EQUAL k_LESS_OR_EQUAL v_LESS_OR_EQUAL z_v_LESS_OR_EQUAL c_v_LESS_OR_EQUAL)), .val (.int (f0_v115 w_CS y_LESS_OR_EQUAL k_LESS_OR_EQUAL v_LESS_OR_EQUAL z_v_LESS_OR_EQUAL c_v_LESS_OR_EQUAL))] [(.int (f0_s0_81_7 p1)), (.int (f7 w_LESS_OR_EQUAL w_EQUAL w_NOT_EQUAL))])) t → Steps p.tables e below (s₁.setTop (entryFrame m #[(.int p1)] maxLocals)) t := by
            intro t k
            refine pre55 t ?_
            show Steps p.tables e below (T34.setTop (mkF m 115 #[.val (.int p1), .val (.int (f0_v6 p1)), .val (.ref w_LESS_OR_EQUAL), .val (.int (f0_s0_81_7 p1)), .val (.ref y_LESS_OR_EQUAL), .val (.int (f0_v94 w_CS y_LESS_OR_EQUAL k_LESS_OR_EQUAL v_LESS_OR_EQUAL z_v_LESS_OR_EQUAL c_v_LESS_OR_EQUAL)), .unset] [(.int (f0_s0_115_8 w_CS y_LESS_OR_EQUAL k_LESS_OR_EQUAL v_LESS_OR_EQUAL z_v_LESS_OR_EQUAL c_v_LESS_OR_EQUAL))])) _
            refine XS.istore X34.here hx rfl (hb hby at_115) rfl (l' := #[.val (.int p1), .val (.int (f0_v6 p1)), .val (.ref w_LESS_OR_EQUAL), .val (.int (f0_s0_81_7 p1)), .val (.ref y_LESS_OR_EQUAL), .val (.int (f0_v94 w_CS y_LESS_OR_EQUAL k_LESS_OR_EQUAL v_LESS_OR_EQUAL z_v_LESS_OR_EQUAL c_v_LESS_OR_EQUAL)), .val (.int (f0_v115 w_CS y_LESS_OR_EQUAL k_LESS_OR_EQUAL v_LESS_OR_EQUAL z_v_LESS_OR_EQUAL c_v_LESS_OR_EQUAL))]) rfl ?_
            show Steps p.tables e below (T34.setTop (mkF m 117 #[.val (.int p1), .val (.int (f0_v6 p1)), .val (.ref w_LESS_OR_EQUAL), .val (.int (f0_s0_81_7 p1)), .val (.ref y_LESS_OR_EQUAL), .val (.int (f0_v94 w_CS y_LESS_OR_EQUAL k_LESS_OR_EQUAL v_LESS_OR_EQUAL z_v_LESS_OR_EQUAL c_v_LESS_OR_EQUAL)), .val (.int (f0_v115 w_CS y_LESS_OR_EQUAL k_LESS_OR_EQUAL v_LESS_OR_EQUAL z_v_LESS_OR_EQUAL c_v_LESS_OR_EQUAL))] [])) _
            refine XS.aloadN X34.here hx rfl (hb hby at_117) rfl rfl ?_
            show Steps p.tables e below (T34.setTop (mkF m 118 #[.val (.int p1), .val (.int (f0_v6 p1)), .val (.ref w_LESS_OR_EQUAL), .val (.int (f0_s0_81_7 p1)), .val (.ref y_LESS_OR_EQUAL), .val (.int (f0_v94 w_CS y_LESS_OR_EQUAL k_LESS_OR_EQUAL v_LESS_OR_EQUAL z_v_LESS_OR_EQUAL c_v_LESS_OR_EQUAL)), .val (.int (f0_v115 w_CS y_LESS_OR_EQUAL k_LESS_OR_EQUAL v_LESS_OR_EQUAL z_v_LESS_OR_EQUAL c_v_LESS_OR_EQUAL))] [(.ref w_LESS_OR_EQUAL)])) _
            refine st35.trans ?_
            show Steps p.tables e below (T35.setTop (mkF m 121 #[.val (.int p1), .val (.int (f0_v6 p1)), .val (.ref w_LESS_OR_EQUAL), .val (.int (f0_s0_81_7 p1)), .val (.ref y_LESS_OR_EQUAL), .val (.int (f0_v94 w_CS y_LESS_OR_EQUAL k_LESS_OR_EQUAL v_LESS_OR_EQUAL z_v_LESS_OR_EQUAL c_v_LESS_OR_EQUAL)), .val (.int (f0_v115 w_CS y_LESS_OR_EQUAL k_LESS_OR_EQUAL v_LESS_OR_EQUAL z_v_LESS_OR_EQUAL c_v_LESS_OR_EQUAL))] [(.int (f7 w_LESS_OR_EQUAL w_EQUAL w_NOT_EQUAL))])) _
            refine XS.iloadN X35.here hx rfl (hb hby at_121) rfl ?_
            exact k
          by_cases hc122 : (f7 w_LESS_OR_EQUAL w_EQUAL w_NOT_EQUAL) = (f0_s0_81_7 p1)
          · have pre61 : ∀ t, Steps p.tables e below (T35.setTop (mkF m 128 #[.val (.int p1), .val (.int (f0_v6 p1)), .val (.ref w_LESS_OR_EQUAL), .val (.int (f0_s0_81_7 p1)), .val (.ref y_LESS_OR_EQUAL), .val (.int (f0_v94 w_CS y_LESS_OR_EQUAL k_LESS_OR_EQUAL v_LESS_OR_EQUAL z_v_LESS_OR_EQUAL c_v_LESS_OR_EQUAL)), .val (.int (f0_v115 w_CS y_LESS_OR_EQUAL k_LESS_OR_EQUAL v_LESS_OR_EQUAL z_v_LESS_OR_EQUAL c_v_LESS_OR_EQUAL))] [(.int (f0_v115 w_CS y_LESS_OR_EQUAL k_LESS_OR_EQUAL v_LESS_OR_EQUAL z_v_LESS_OR_EQUAL c_v_LESS_OR_EQUAL)), (.int (f0_s0_81_7 p1))])) t → Steps p.tables e below (s₁.setTop (entryFrame m #[(.int p1)] maxLocals)) t := by
              intro t k
              refine pre60 t ?_
              show Steps p.tables e below (T35.setTop (mkF m 122 #[.val (.int p1), .val (.int (f0_v6 p1)), .val (.ref w_LESS_OR_EQUAL), .val (.int (f0_s0_81_7 p1)), .val (.ref y_LESS_OR_EQUAL), .val (.int (f0_v94 w_CS y_LESS_OR_EQUAL k_LESS_OR_EQUAL v_LESS_OR_EQUAL z_v_LESS_OR_EQUAL c_v_LESS_OR_EQUAL)), .val (.int (f0_v115 w_CS y_LESS_OR_EQUAL k_LESS_OR_EQUAL v_LESS_OR_EQUAL z_v_LESS_OR_EQUAL c_v_LESS_OR_EQUAL))] [(.int (f0_s0_81_7 p1)), (.int (f7 w_LESS_OR_EQUAL w_EQUAL w_NOT_EQUAL))])) _
              refine XS.icmpNo X35.here hx rfl (hb hby at_122) rfl (teq hc122).2 ?_
              show Steps p.tables e below (T35.setTop (mkF m 125 #[.val (.int p1), .val (.int (f0_v6 p1)), .val (.ref w_LESS_OR_EQUAL), .val (.int (f0_s0_81_7 p1)), .val (.ref y_LESS_OR_EQUAL), .val (.int (f0_v94 w_CS y_LESS_OR_EQUAL k_LESS_OR_EQUAL v_LESS_OR_EQUAL z_v_LESS_OR_EQUAL c_v_LESS_OR_EQUAL)), .val (.int (f0_v115 w_CS y_LESS_OR_EQUAL k_LESS_OR_EQUAL v_LESS_OR_EQUAL z_v_LESS_OR_EQUAL c_v_LESS_OR_EQUAL))] [])) _
              refine XS.iloadN X35.here hx rfl (hb hby at_125) rfl ?_
              show Steps p.tables e below (T35.setTop (mkF m 126 #[.val (.int p1), .val (.int (f0_v6 p1)), .val (.ref w_LESS_OR_EQUAL), .val (.int (f0_s0_81_7 p1)), .val (.ref y_LESS_OR_EQUAL), .val (.int (f0_v94 w_CS y_LESS_OR_EQUAL k_LESS_OR_EQUAL v_LESS_OR_EQUAL z_v_LESS_OR_EQUAL c_v_LESS_OR_EQUAL)), .val (.int (f0_v115 w_CS y_LESS_OR_EQUAL k_LESS_OR_EQUAL v_LESS_OR_EQUAL z_v_LESS_OR_EQUAL c_v_LESS_OR_EQUAL))] [(.int (f0_s0_81_7 p1))])) _
              refine XS.iload X35.here hx rfl (hb hby at_126) rfl ?_
              exact k
            by_cases hc128 : (f0_s0_81_7 p1) = (f0_v115 w_CS y_LESS_OR_EQUAL k_LESS_OR_EQUAL v_LESS_OR_EQUAL z_v_LESS_OR_EQUAL c_v_LESS_OR_EQUAL)
            · have eq62 : (f0 p1 w_EQUAL w_NOT_EQUAL w_LESS w_LESS_OR_EQUAL w_GREATER w_GREATER_OR_EQUAL w_CS y_EQUAL k_EQUAL v_EQUAL z_v_EQUAL c_v_EQUAL y_NOT_EQUAL k_NOT_EQUAL v_NOT_EQUAL z_v_NOT_EQUAL c_v_NOT_EQUAL y_LESS k_LESS v_LESS z_v_LESS c_v_LESS y_LESS_OR_EQUAL k_LESS_OR_EQUAL v_LESS_OR_EQUAL z_v_LESS_OR_EQUAL c_v_LESS_OR_EQUAL y_GREATER k_GREATER v_GREATER z_v_GREATER c_v_GREATER y_GREATER_OR_EQUAL k_GREATER_OR_EQUAL v_GREATER_OR_EQUAL z_v_GREATER_OR_EQUAL c_v_GREATER_OR_EQUAL) = (1 : Int32) := by unfold f0; simp only [if_neg hc9, if_neg hc21, if_neg hc33, if_pos hc45, if_pos hc122, if_pos hc128]
              obtain ⟨fs, hr, hrun, hended, hW, hsame⟩ := X35.leave (v := some (.int (1 : Int32))) (fun h => by rw [Bd.returns] at h; cases h)
              refine ⟨_, _, pre61 _ ?_, hrun, hended, _, _, rfl, ?_, ⟨_, rfl⟩, hW, hsame.mono (by decide) (by decide)⟩
              · show Steps p.tables e below (T35.setTop (mkF m 128 #[.val (.int p1), .val (.int (f0_v6 p1)), .val (.ref w_LESS_OR_EQUAL), .val (.int (f0_s0_81_7 p1)), .val (.ref y_LESS_OR_EQUAL), .val (.int (f0_v94 w_CS y_LESS_OR_EQUAL k_LESS_OR_EQUAL v_LESS_OR_EQUAL z_v_LESS_OR_EQUAL c_v_LESS_OR_EQUAL)), .val (.int (f0_v115 w_CS y_LESS_OR_EQUAL k_LESS_OR_EQUAL v_LESS_OR_EQUAL z_v_LESS_OR_EQUAL c_v_LESS_OR_EQUAL))] [(.int (f0_v115 w_CS y_LESS_OR_EQUAL k_LESS_OR_EQUAL v_LESS_OR_EQUAL z_v_LESS_OR_EQUAL c_v_LESS_OR_EQUAL)), (.int (f0_s0_81_7 p1))])) _
                refine XS.icmpNo X35.here hx rfl (hb hby at_128) rfl (teq hc128).2 ?_
                show Steps p.tables e below (T35.setTop (mkF m 131 #[.val (.int p1), .val (.int (f0_v6 p1)), .val (.ref w_LESS_OR_EQUAL), .val (.int (f0_s0_81_7 p1)), .val (.ref y_LESS_OR_EQUAL), .val (.int (f0_v94 w_CS y_LESS_OR_EQUAL k_LESS_OR_EQUAL v_LESS_OR_EQUAL z_v_LESS_OR_EQUAL c_v_LESS_OR_EQUAL)), .val (.int (f0_v115 w_CS y_LESS_OR_EQUAL k_LESS_OR_EQUAL v_LESS_OR_EQUAL z_v_LESS_OR_EQUAL c_v_LESS_OR_EQUAL))] [])) _
                refine XS.iconst X35.here hx rfl (hb hby at_131) ?_
                show Steps p.tables e below (T35.setTop (mkF m 132 #[.val (.int p1), .val (.int (f0_v6 p1)), .val (.ref w_LESS_OR_EQUAL), .val (.int (f0_s0_81_7 p1)), .val (.ref y_LESS_OR_EQUAL), .val (.int (f0_v94 w_CS y_LESS_OR_EQUAL k_LESS_OR_EQUAL v_LESS_OR_EQUAL z_v_LESS_OR_EQUAL c_v_LESS_OR_EQUAL)), .val (.int (f0_v115 w_CS y_LESS_OR_EQUAL k_LESS_OR_EQUAL v_LESS_OR_EQUAL z_v_LESS_OR_EQUAL c_v_LESS_OR_EQUAL))] [(.int (1 : Int32))])) _
                refine XS.goto X35.here hx rfl (pc0 := 132) (pc' := 136) rfl (hb hby at_132) (by decide) (by decide) ?_
                show Steps p.tables e below (T35.setTop (mkF m 136 #[.val (.int p1), .val (.int (f0_v6 p1)), .val (.ref w_LESS_OR_EQUAL), .val (.int (f0_s0_81_7 p1)), .val (.ref y_LESS_OR_EQUAL), .val (.int (f0_v94 w_CS y_LESS_OR_EQUAL k_LESS_OR_EQUAL v_LESS_OR_EQUAL z_v_LESS_OR_EQUAL c_v_LESS_OR_EQUAL)), .val (.int (f0_v115 w_CS y_LESS_OR_EQUAL k_LESS_OR_EQUAL v_LESS_OR_EQUAL z_v_LESS_OR_EQUAL c_v_LESS_OR_EQUAL))] [(.int (1 : Int32))])) _
                exact retN X35 hx (t := .boolean) Bd.returns (by simp) (hb hby at_136) hr
              · show Q0 Z p1 w_EQUAL w_NOT_EQUAL w_LESS w_LESS_OR_EQUAL w_GREATER w_GREATER_OR_EQUAL w_CS w_SIO y_EQUAL k_EQUAL v_EQUAL z_v_EQUAL c_v_EQUAL y_NOT_EQUAL k_NOT_EQUAL v_NOT_EQUAL z_v_NOT_EQUAL c_v_NOT_EQUAL y_LESS k_LESS v_LESS z_v_LESS c_v_LESS y_LESS_OR_EQUAL k_LESS_OR_EQUAL v_LESS_OR_EQUAL z_v_LESS_OR_EQUAL c_v_LESS_OR_EQUAL y_GREATER k_GREATER v_GREATER z_v_GREATER c_v_GREATER y_GREATER_OR_EQUAL k_GREATER_OR_EQUAL v_GREATER_OR_EQUAL z_v_GREATER_OR_EQUAL c_v_GREATER_OR_EQUAL h0 n0 _ T35.heap _
                rw [e35]
                exact ⟨by rw [eq62], N35, trivial⟩
            · have eq63 : (f0 p1 w_EQUAL w_NOT_EQUAL w_LESS w_LESS_OR_EQUAL w_GREATER w_GREATER_OR_EQUAL w_CS y_EQUAL k_EQUAL v_EQUAL z_v_EQUAL c_v_EQUAL y_NOT_EQUAL k_NOT_EQUAL v_NOT_EQUAL z_v_NOT_EQUAL c_v_NOT_EQUAL y_LESS k_LESS v_LESS z_v_LESS c_v_LESS y_LESS_OR_EQUAL k_LESS_OR_EQUAL v_LESS_OR_EQUAL z_v_LESS_OR_EQUAL c_v_LESS_OR_EQUAL y_GREATER k_GREATER v_GREATER z_v_GREATER c_v_GREATER y_GREATER_OR_EQUAL k_GREATER_OR_EQUAL v_GREATER_OR_EQUAL z_v_GREATER_OR_EQUAL c_v_GREATER_OR_EQUAL) = (0 : Int32) := by unfold f0; simp only [if_neg hc9, if_neg hc21, if_neg hc33, if_pos hc45, if_pos hc122, if_neg hc128]
              obtain ⟨fs, hr, hrun, hended, hW, hsame⟩ := X35.leave (v := some (.int (0 : Int32))) (fun h => by rw [Bd.returns] at h; cases h)
              refine ⟨_, _, pre61 _ ?_, hrun, hended, _, _, rfl, ?_, ⟨_, rfl⟩, hW, hsame.mono (by decide) (by decide)⟩
              · show Steps p.tables e below (T35.setTop (mkF m 128 #[.val (.int p1), .val (.int (f0_v6 p1)), .val (.ref w_LESS_OR_EQUAL), .val (.int (f0_s0_81_7 p1)), .val (.ref y_LESS_OR_EQUAL), .val (.int (f0_v94 w_CS y_LESS_OR_EQUAL k_LESS_OR_EQUAL v_LESS_OR_EQUAL z_v_LESS_OR_EQUAL c_v_LESS_OR_EQUAL)), .val (.int (f0_v115 w_CS y_LESS_OR_EQUAL k_LESS_OR_EQUAL v_LESS_OR_EQUAL z_v_LESS_OR_EQUAL c_v_LESS_OR_EQUAL))] [(.int (f0_v115 w_CS y_LESS_OR_EQUAL k_LESS_OR_EQUAL v_LESS_OR_EQUAL z_v_LESS_OR_EQUAL c_v_LESS_OR_EQUAL)), (.int (f0_s0_81_7 p1))])) _
                refine XS.icmpYes X35.here hx rfl (pc0 := 128) (pc' := 135) rfl (hb hby at_128) rfl (feq hc128).2 (by decide) (by decide) ?_
                show Steps p.tables e below (T35.setTop (mkF m 135 #[.val (.int p1), .val (.int (f0_v6 p1)), .val (.ref w_LESS_OR_EQUAL), .val (.int (f0_s0_81_7 p1)), .val (.ref y_LESS_OR_EQUAL), .val (.int (f0_v94 w_CS y_LESS_OR_EQUAL k_LESS_OR_EQUAL v_LESS_OR_EQUAL z_v_LESS_OR_EQUAL c_v_LESS_OR_EQUAL)), .val (.int (f0_v115 w_CS y_LESS_OR_EQUAL k_LESS_OR_EQUAL v_LESS_OR_EQUAL z_v_LESS_OR_EQUAL c_v_LESS_OR_EQUAL))] [])) _
                refine XS.iconst X35.here hx rfl (hb hby at_135) ?_
                show Steps p.tables e below (T35.setTop (mkF m 136 #[.val (.int p1), .val (.int (f0_v6 p1)), .val (.ref w_LESS_OR_EQUAL), .val (.int (f0_s0_81_7 p1)), .val (.ref y_LESS_OR_EQUAL), .val (.int (f0_v94 w_CS y_LESS_OR_EQUAL k_LESS_OR_EQUAL v_LESS_OR_EQUAL z_v_LESS_OR_EQUAL c_v_LESS_OR_EQUAL)), .val (.int (f0_v115 w_CS y_LESS_OR_EQUAL k_LESS_OR_EQUAL v_LESS_OR_EQUAL z_v_LESS_OR_EQUAL c_v_LESS_OR_EQUAL))] [(.int (0 : Int32))])) _
                exact retN X35 hx (t := .boolean) Bd.returns (by simp) (hb hby at_136) hr
              · show Q0 Z p1 w_EQUAL w_NOT_EQUAL w_LESS w_LESS_OR_EQUAL w_GREATER w_GREATER_OR_EQUAL w_CS w_SIO y_EQUAL k_EQUAL v_EQUAL z_v_EQUAL c_v_EQUAL y_NOT_EQUAL k_NOT_EQUAL v_NOT_EQUAL z_v_NOT_EQUAL c_v_NOT_EQUAL y_LESS k_LESS v_LESS z_v_LESS c_v_LESS y_LESS_OR_EQUAL k_LESS_OR_EQUAL v_LESS_OR_EQUAL z_v_LESS_OR_EQUAL c_v_LESS_OR_EQUAL y_GREATER k_GREATER v_GREATER z_v_GREATER c_v_GREATER y_GREATER_OR_EQUAL k_GREATER_OR_EQUAL v_GREATER_OR_EQUAL z_v_GREATER_OR_EQUAL c_v_GREATER_OR_EQUAL h0 n0 _ T35.heap _
                rw [e35]
                exact ⟨by rw [eq63], N35, trivial⟩
          · have eq64 : (f0 p1 w_EQUAL w_NOT_EQUAL w_LESS w_LESS_OR_EQUAL w_GREATER w_GREATER_OR_EQUAL w_CS y_EQUAL k_EQUAL v_EQUAL z_v_EQUAL c_v_EQUAL y_NOT_EQUAL k_NOT_EQUAL v_NOT_EQUAL z_v_NOT_EQUAL c_v_NOT_EQUAL y_LESS k_LESS v_LESS z_v_LESS c_v_LESS y_LESS_OR_EQUAL k_LESS_OR_EQUAL v_LESS_OR_EQUAL z_v_LESS_OR_EQUAL c_v_LESS_OR_EQUAL y_GREATER k_GREATER v_GREATER z_v_GREATER c_v_GREATER y_GREATER_OR_EQUAL k_GREATER_OR_EQUAL v_GREATER_OR_EQUAL z_v_GREATER_OR_EQUAL c_v_GREATER_OR_EQUAL) = (0 : Int32) := by unfold f0; simp only [if_neg hc9, if_neg hc21, if_neg hc33, if_pos hc45, if_neg hc122]
            obtain ⟨fs, hr, hrun, hended, hW, hsame⟩ := X35.leave (v := some (.int (0 : Int32))) (fun h => by rw [Bd.returns] at h; cases h)
            refine ⟨_, _, pre60 _ ?_, hrun, hended, _, _, rfl, ?_, ⟨_, rfl⟩, hW, hsame.mono (by decide) (by decide)⟩
            · show Steps p.tables e below (T35.setTop (mkF m 122 #[.val (.int p1), .val (.int (f0_v6 p1)), .val (.ref w_LESS_OR_EQUAL), .val (.int (f0_s0_81_7 p1)), .val (.ref y_LESS_OR_EQUAL), .val (.int (f0_v94 w_CS y_LESS_OR_EQUAL k_LESS_OR_EQUAL v_LESS_OR_EQUAL z_v_LESS_OR_EQUAL c_v_LESS_OR_EQUAL)), .val (.int (f0_v115 w_CS y_LESS_OR_EQUAL k_LESS_OR_EQUAL v_LESS_OR_EQUAL z_v_LESS_OR_EQUAL c_v_LESS_OR_EQUAL))] [(.int (f0_s0_81_7 p1)), (.int (f7 w_LESS_OR_EQUAL w_EQUAL w_NOT_EQUAL))])) _
              refine XS.icmpYes X35.here hx rfl (pc0 := 122) (pc' := 135) rfl (hb hby at_122) rfl (feq hc122).2 (by decide) (by decide) ?_
              show Steps p.tables e below (T35.setTop (mkF m 135 #[.val (.int p1), .val (.int (f0_v6 p1)), .val (.ref w_LESS_OR_EQUAL), .val (.int (f0_s0_81_7 p1)), .val (.ref y_LESS_OR_EQUAL), .val (.int (f0_v94 w_CS y_LESS_OR_EQUAL k_LESS_OR_EQUAL v_LESS_OR_EQUAL z_v_LESS_OR_EQUAL c_v_LESS_OR_EQUAL)), .val (.int (f0_v115 w_CS y_LESS_OR_EQUAL k_LESS_OR_EQUAL v_LESS_OR_EQUAL z_v_LESS_OR_EQUAL c_v_LESS_OR_EQUAL))] [])) _
              refine XS.iconst X35.here hx rfl (hb hby at_135) ?_
              show Steps p.tables e below (T35.setTop (mkF m 136 #[.val (.int p1), .val (.int (f0_v6 p1)), .val (.ref w_LESS_OR_EQUAL), .val (.int (f0_s0_81_7 p1)), .val (.ref y_LESS_OR_EQUAL), .val (.int (f0_v94 w_CS y_LESS_OR_EQUAL k_LESS_OR_EQUAL v_LESS_OR_EQUAL z_v_LESS_OR_EQUAL c_v_LESS_OR_EQUAL)), .val (.int (f0_v115 w_CS y_LESS_OR_EQUAL k_LESS_OR_EQUAL v_LESS_OR_EQUAL z_v_LESS_OR_EQUAL c_v_LESS_OR_EQUAL))] [(.int (0 : Int32))])) _
              exact retN X35 hx (t := .boolean) Bd.returns (by simp) (hb hby at_136) hr
            · show Q0 Z p1 w_EQUAL w_NOT_EQUAL w_LESS w_LESS_OR_EQUAL w_GREATER w_GREATER_OR_EQUAL w_CS w_SIO y_EQUAL k_EQUAL v_EQUAL z_v_EQUAL c_v_EQUAL y_NOT_EQUAL k_NOT_EQUAL v_NOT_EQUAL z_v_NOT_EQUAL c_v_NOT_EQUAL y_LESS k_LESS v_LESS z_v_LESS c_v_LESS y_LESS_OR_EQUAL k_LESS_OR_EQUAL v_LESS_OR_EQUAL z_v_LESS_OR_EQUAL c_v_LESS_OR_EQUAL y_GREATER k_GREATER v_GREATER z_v_GREATER c_v_GREATER y_GREATER_OR_EQUAL k_GREATER_OR_EQUAL v_GREATER_OR_EQUAL z_v_GREATER_OR_EQUAL c_v_GREATER_OR_EQUAL h0 n0 _ T35.heap _
              rw [e35]
              exact ⟨by rw [eq64], N35, trivial⟩
        · have pre65 : ∀ t, Steps p.tables e below (s₁.setTop (mkF m 57 #[.val (.int p1), .val (.int (f0_v6 p1)), .unset, .unset, .unset, .unset, .unset] [(.int (4 : Int32)), (.int (f0_v6 p1))])) t → Steps p.tables e below (s₁.setTop (entryFrame m #[(.int p1)] maxLocals)) t := by
            intro t k
            refine pre49 t ?_
            show Steps p.tables e below (s₁.setTop (mkF m 45 #[.val (.int p1), .val (.int (f0_v6 p1)), .unset, .unset, .unset, .unset, .unset] [(.int (3 : Int32)), (.int (f0_v6 p1))])) _
            refine XS.icmpYes X0.here hx rfl (pc0 := 45) (pc' := 55) rfl (hb hby at_45) rfl (feq hc45).2 (by decide) (by decide) ?_
            show Steps p.tables e below (s₁.setTop (mkF m 55 #[.val (.int p1), .val (.int (f0_v6 p1)), .unset, .unset, .unset, .unset, .unset] [])) _
            refine XS.iloadN X0.here hx rfl (hb hby at_55) rfl ?_
            show Steps p.tables e below (s₁.setTop (mkF m 56 #[.val (.int p1), .val (.int (f0_v6 p1)), .unset, .unset, .unset, .unset, .unset] [(.int (f0_v6 p1))])) _
            refine XS.iconst X0.here hx rfl (hb hby at_56) ?_
            exact k
          by_cases hc57 : (f0_v6 p1) = (4 : Int32)
          · obtain ⟨T38, X38, e38, st38⟩ := getS2 X0 hx hZ hown (host := "") (Or.inl (hw _ (List.mem_of_getElem? (i := 54) rfl))) Via.refl e0 S_GREATER (g := (mkF m 60 #[.val (.int p1), .val (.int (f0_v6 p1)), .unset, .unset, .unset, .unset, .unset] [])) rfl (hb hby at_60)
            have pre66 : ∀ t, Steps p.tables e below (T38.setTop (mkF m 73 #[.val (.int p1), .val (.int (f0_v6 p1)), .val (.ref w_GREATER), .unset, .unset, .unset, .unset] [(.int (2 : Int32)), (.int (f0_v6 p1))])) t → Steps p.tables e below (s₁.setTop (entryFrame m #[(.int p1)] maxLocals)) t := by
              intro t k
              refine pre65 t ?_
              show Steps p.tables e below (s₁.setTop (mkF m 57 #[.val (.int p1), .val (.int (f0_v6 p1)), .unset, .unset, .unset, .unset, .unset] [(.int (4 : Int32)), (.int (f0_v6 p1))])) _
              refine XS.icmpNo X0.here hx rfl (hb hby at_57) rfl (teq hc57).2 ?_
              show Steps p.tables e below (s₁.setTop (mkF m 60 #[.val (.int p1), .val (.int (f0_v6 p1)), .unset, .unset, .unset, .unset, .unset] [])) _
              refine st38 _ ?_
              show Steps p.tables e below (T38.setTop (mkF m 63 #[.val (.int p1), .val (.int (f0_v6 p1)), .unset, .unset, .unset, .unset, .unset] [(.ref w_GREATER)])) _
              refine XS.astoreN X38.here hx rfl (hb hby at_63) rfl rfl (l' := #[.val (.int p1), .val (.int (f0_v6 p1)), .val (.ref w_GREATER), .unset, .unset, .unset, .unset]) rfl ?_
              show Steps p.tables e below (T38.setTop (mkF m 64 #[.val (.int p1), .val (.int (f0_v6 p1)), .val (.ref w_GREATER), .unset, .unset, .unset, .unset] [])) _
              refine XS.goto X38.here hx rfl (pc0 := 64) (pc' := 71) rfl (hb hby at_64) (by decide) (by decide) ?_
              show Steps p.tables e below (T38.setTop (mkF m 71 #[.val (.int p1), .val (.int (f0_v6 p1)), .val (.ref w_GREATER), .unset, .unset, .unset, .unset] [])) _
              refine XS.iloadN X38.here hx rfl (hb hby at_71) rfl ?_
              show Steps p.tables e below (T38.setTop (mkF m 72 #[.val (.int p1), .val (.int (f0_v6 p1)), .val (.ref w_GREATER), .unset, .unset, .unset, .unset] [(.int (f0_v6 p1))])) _
              refine XS.iconst X38.here hx rfl (hb hby at_72) ?_
              exact k
            have pre67 : ∀ t, Steps p.tables e below (T38.setTop (mkF m 81 #[.val (.int p1), .val (.int (f0_v6 p1)), .val (.ref w_GREATER), .unset, .unset, .unset, .unset] [(.int (f0_s0_81_9 p1))])) t → Steps p.tables e below (s₁.setTop (entryFrame m #[(.int p1)] maxLocals)) t := by
              intro t k
              by_cases hc73 : (f0_v6 p1) < (2 : Int32)
              · have eq68 := (show (f0_s0_81_9 p1) = (0 : Int32) from by unfold f0_s0_81_9; simp only [if_pos hc73])
                try rw [eq68] at k
                refine pre66 t ?_
                show Steps p.tables e below (T38.setTop (mkF m 73 #[.val (.int p1), .val (.int (f0_v6 p1)), .val (.ref w_GREATER), .unset, .unset, .unset, .unset] [(.int (2 : Int32)), (.int (f0_v6 p1))])) _
                refine XS.icmpYes X38.here hx rfl (pc0 := 73) (pc' := 80) rfl (hb hby at_73) rfl (tlt hc73).1 (by decide) (by decide) ?_
                show Steps p.tables e below (T38.setTop (mkF m 80 #[.val (.int p1), .val (.int (f0_v6 p1)), .val (.ref w_GREATER), .unset, .unset, .unset, .unset] [])) _
                refine XS.iconst X38.here hx rfl (hb hby at_80) ?_
                exact k
              · have eq69 := (show (f0_s0_81_9 p1) = (1 : Int32) from by unfold f0_s0_81_9; simp only [if_neg hc73])
                try rw [eq69] at k
                refine pre66 t ?_
                show Steps p.tables e below (T38.setTop (mkF m 73 #[.val (.int p1), .val (.int (f0_v6 p1)), .val (.ref w_GREATER), .unset, .unset, .unset, .unset] [(.int (2 : Int32)), (.int (f0_v6 p1))])) _
                refine XS.icmpNo X38.here hx rfl (hb hby at_73) rfl (flt hc73).1 ?_
                show Steps p.tables e below (T38.setTop (mkF m 76 #[.val (.int p1), .val (.int (f0_v6 p1)), .val (.ref w_GREATER), .unset, .unset, .unset, .unset] [])) _
                refine XS.iconst X38.here hx rfl (hb hby at_76) ?_
                show Steps p.tables e below (T38.setTop (mkF m 77 #[.val (.int p1), .val (.int (f0_v6 p1)), .val (.ref w_GREATER), .unset, .unset, .unset, .unset] [(.int (1 : Int32))])) _
                refine XS.goto X38.here hx rfl (pc0 := 77) (pc' := 81) rfl (hb hby at_77) (by decide) (by decide) ?_
                exact k
            obtain ⟨cq39, kq39, q39a, q39b, q39c⟩ := isOf hZ e38 E_w_GREATER
            obtain ⟨_, _, ⟨T39, L39, k39, n39⟩, -, X39, ⟨Lc39, hQ39, l39, y39, z39⟩, st39⟩ := X38.virtualBack hx (y := (⟨"com/example/inline_monitor/inlinemonitor/model/Guard$Relation", "symbol", "()Ljava/lang/String;"⟩ : MethodName)) (z := (⟨"com/example/inline_monitor/inlinemonitor/model/Guard$Relation", "symbol", "()Ljava/lang/String;"⟩ : MethodName)) hown (mvT hZ (hw _ (List.mem_of_getElem? (i := 4) rfl))) (mvT hZ (hw _ (List.mem_of_getElem? (i := 5) rfl))) (notFace_of_selects (args := #[]) (mvT hZ (hw _ (List.mem_of_getElem? (i := 7) rfl)))) (mvT hZ (hw _ (List.mem_of_getElem? (i := 7) rfl))) (mvT hZ (hw _ (List.mem_of_getElem? (i := 6) rfl))) (by decide) (backOf (W := 0) (rm1 l Z a0 hw [] w_GREATER y_GREATER h0 n0 Z0 F_symbol_w_GREATER) hZ (hw _ (List.mem_of_getElem? (i := 8) rfl)) (hw _ (List.mem_of_getElem? (i := 2) rfl)) (by decide) (by decide)) q39a q39c (g := (mkF m 83 #[.val (.int p1), .val (.int (f0_v6 p1)), .val (.ref w_GREATER), .val (.int (f0_s0_81_9 p1)), .unset, .unset, .unset] [(.ref w_GREATER)])) rfl (by rw [hml]; rfl) (Steps.refl _) (argsL := []) (rest := []) (lenOf pd_4 rfl) rfl (by show 2 * 0 + _ ≤ _; exact Nat.le_of_eq rfl) (hb hby at_83) (fun _ _ => ⟨rfl, e38, (by decide : 0 + 0 ≤ _), (by decide : 0 + 0 ≤ _)⟩)
            dsimp only [Pt.U, Pt.locs, Pt.cells, Pt.slots] at X39 l39 y39 z39 st39 hQ39
            subst l39 y39 z39
            obtain ⟨rfl, N39q, e39⟩ := hQ39
            have N39 := Fr.app N0 N39q
            obtain ⟨cq40, kq40, q40a, q40b, q40c⟩ := isOf hZ e39 E_y_GREATER
            obtain ⟨_, _, ⟨T40, L40, k40, n40⟩, -, X40, ⟨Lc40, hQ40, l40, y40, z40⟩, st40⟩ := X39.virtualBack hx (y := (⟨"java/lang/String", "charAt", "(I)C"⟩ : MethodName)) (z := (⟨"java/lang/String", "charAt", "(I)C"⟩ : MethodName)) hown (mvT hZ (hw _ (List.mem_of_getElem? (i := 11) rfl))) (mvT hZ (hw _ (List.mem_of_getElem? (i := 12) rfl))) (notFace_of_selects (args := #[]) (mvT hZ (hw _ (List.mem_of_getElem? (i := 14) rfl)))) (mvT hZ (hw _ (List.mem_of_getElem? (i := 14) rfl))) (mvT hZ (hw _ (List.mem_of_getElem? (i := 13) rfl))) (by decide) (backOf (W := 0) (rm2 l Z a0 hw [] y_GREATER (0 : Int32) w_CS k_GREATER v_GREATER z_v_GREATER c_v_GREATER w_SIO h0 n0 Z0 E_y_GREATER S_COMPACT_STRINGS hcs F_coder_y_GREATER hk_GREATER F_value_y_GREATER V_v_GREATER S_SIOOBE_FORMATTER hcat ⟨by decide, hl_GREATER⟩) hZ (hw _ (List.mem_of_getElem? (i := 16) rfl)) (hw _ (List.mem_of_getElem? (i := 15) rfl)) (by decide) (by decide)) q40a q40c (g := (mkF m 91 #[.val (.int p1), .val (.int (f0_v6 p1)), .val (.ref w_GREATER), .val (.int (f0_s0_81_9 p1)), .val (.ref y_GREATER), .unset, .unset] [(.int (0 : Int32)), (.ref y_GREATER)])) rfl (by rw [hml]; rfl) (Steps.refl _) (argsL := [(.int (0 : Int32))]) (rest := []) (lenOf pd_5 rfl) rfl (by show 2 * 0 + _ ≤ _; exact Nat.le_of_eq rfl) (hb hby at_91) (fun _ _ => ⟨rfl, e39, (by decide : 0 + 0 ≤ _), (by decide : 0 + 0 ≤ _)⟩)
            dsimp only [Pt.U, Pt.locs, Pt.cells, Pt.slots] at X40 l40 y40 z40 st40 hQ40
            subst l40 y40 z40
            obtain ⟨rfl, N40q, e40⟩ := hQ40
            have N40 := Fr.app N39 N40q
            have pre70 : ∀ t, Steps p.tables e below (T40.setTop (mkF m 100 #[.val (.int p1), .val (.int (f0_v6 p1)), .val (.ref w_GREATER), .val (.int (f0_s0_81_9 p1)), .val (.ref y_GREATER), .val (.int (f2 y_GREATER (0 : Int32) w_CS k_GREATER v_GREATER z_v_GREATER c_v_GREATER)), .unset] [(.int (60 : Int32)), (.int (f2 y_GREATER (0 : Int32) w_CS k_GREATER v_GREATER z_v_GREATER c_v_GREATER))])) t → Steps p.tables e below (s₁.setTop (entryFrame m #[(.int p1)] maxLocals)) t := by
              intro t k
              refine pre67 t ?_
              show Steps p.tables e below (T38.setTop (mkF m 81 #[.val (.int p1), .val (.int (f0_v6 p1)), .val (.ref w_GREATER), .unset, .unset, .unset, .unset] [(.int (f0_s0_81_9 p1))])) _
              refine XS.istoreN X38.here hx rfl (hb hby at_81) rfl (l' := #[.val (.int p1), .val (.int (f0_v6 p1)), .val (.ref w_GREATER), .val (.int (f0_s0_81_9 p1)), .unset, .unset, .unset]) rfl ?_
              show Steps p.tables e below (T38.setTop (mkF m 82 #[.val (.int p1), .val (.int (f0_v6 p1)), .val (.ref w_GREATER), .val (.int (f0_s0_81_9 p1)), .unset, .unset, .unset] [])) _
              refine XS.aloadN X38.here hx rfl (hb hby at_82) rfl rfl ?_
              show Steps p.tables e below (T38.setTop (mkF m 83 #[.val (.int p1), .val (.int (f0_v6 p1)), .val (.ref w_GREATER), .val (.int (f0_s0_81_9 p1)), .unset, .unset, .unset] [(.ref w_GREATER)])) _
              refine st39.trans ?_
              show Steps p.tables e below (T39.setTop (mkF m 86 #[.val (.int p1), .val (.int (f0_v6 p1)), .val (.ref w_GREATER), .val (.int (f0_s0_81_9 p1)), .unset, .unset, .unset] [(.ref y_GREATER)])) _
              refine XS.astore X39.here hx rfl (hb hby at_86) rfl rfl (l' := #[.val (.int p1), .val (.int (f0_v6 p1)), .val (.ref w_GREATER), .val (.int (f0_s0_81_9 p1)), .val (.ref y_GREATER), .unset, .unset]) rfl ?_
              show Steps p.tables e below (T39.setTop (mkF m 88 #[.val (.int p1), .val (.int (f0_v6 p1)), .val (.ref w_GREATER), .val (.int (f0_s0_81_9 p1)), .val (.ref y_GREATER), .unset, .unset] [])) _
              refine XS.aload X39.here hx rfl (hb hby at_88) rfl rfl ?_
              show Steps p.tables e below (T39.setTop (mkF m 90 #[.val (.int p1), .val (.int (f0_v6 p1)), .val (.ref w_GREATER), .val (.int (f0_s0_81_9 p1)), .val (.ref y_GREATER), .unset, .unset] [(.ref y_GREATER)])) _
              refine XS.iconst X39.here hx rfl (hb hby at_90) ?_
              show Steps p.tables e below (T39.setTop (mkF m 91 #[.val (.int p1), .val (.int (f0_v6 p1)), .val (.ref w_GREATER), .val (.int (f0_s0_81_9 p1)), .val (.ref y_GREATER), .unset, .unset] [(.int (0 : Int32)), (.ref y_GREATER)])) _
              refine st40.trans ?_
              show Steps p.tables e below (T40.setTop (mkF m 94 #[.val (.int p1), .val (.int (f0_v6 p1)), .val (.ref w_GREATER), .val (.int (f0_s0_81_9 p1)), .val (.ref y_GREATER), .unset, .unset] [(.int (f2 y_GREATER (0 : Int32) w_CS k_GREATER v_GREATER z_v_GREATER c_v_GREATER))])) _
              refine XS.istore X40.here hx rfl (hb hby at_94) rfl (l' := #[.val (.int p1), .val (.int (f0_v6 p1)), .val (.ref w_GREATER), .val (.int (f0_s0_81_9 p1)), .val (.ref y_GREATER), .val (.int (f2 y_GREATER (0 : Int32) w_CS k_GREATER v_GREATER z_v_GREATER c_v_GREATER)), .unset]) rfl ?_
              show Steps p.tables e below (T40.setTop (mkF m 96 #[.val (.int p1), .val (.int (f0_v6 p1)), .val (.ref w_GREATER), .val (.int (f0_s0_81_9 p1)), .val (.ref y_GREATER), .val (.int (f2 y_GREATER (0 : Int32) w_CS k_GREATER v_GREATER z_v_GREATER c_v_GREATER)), .unset] [])) _
              refine XS.iload X40.here hx rfl (hb hby at_96) rfl ?_
              show Steps p.tables e below (T40.setTop (mkF m 98 #[.val (.int p1), .val (.int (f0_v6 p1)), .val (.ref w_GREATER), .val (.int (f0_s0_81_9 p1)), .val (.ref y_GREATER), .val (.int (f2 y_GREATER (0 : Int32) w_CS k_GREATER v_GREATER z_v_GREATER c_v_GREATER)), .unset] [(.int (f2 y_GREATER (0 : Int32) w_CS k_GREATER v_GREATER z_v_GREATER c_v_GREATER))])) _
              refine XS.bipush X40.here hx rfl (hb hby at_98) ?_
              exact k
            have pre71 : ∀ t, Steps p.tables e below (T40.setTop (mkF m 115 #[.val (.int p1), .val (.int (f0_v6 p1)), .val (.ref w_GREATER), .val (.int (f0_s0_81_9 p1)), .val (.ref y_GREATER), .val (.int (f2 y_GREATER (0 : Int32) w_CS k_GREATER v_GREATER z_v_GREATER c_v_GREATER)), .unset] [(.int (f0_s0_115_10 w_CS y_GREATER k_GREATER v_GREATER z_v_GREATER c_v_GREATER))])) t → Steps p.tables e below (s₁.setTop (entryFrame m #[(.int p1)] maxLocals)) t := by
              intro t k
              by_cases hc100 : (f2 y_GREATER (0 : Int32) w_CS k_GREATER v_GREATER z_v_GREATER c_v_GREATER) = (60 : Int32)
              · have eq72 := (show (f0_s0_115_10 w_CS y_GREATER k_GREATER v_GREATER z_v_GREATER c_v_GREATER) = (1 : Int32) from by unfold f0_s0_115_10; simp only [if_pos hc100])
                try rw [eq72] at k
                refine pre70 t ?_
                show Steps p.tables e below (T40.setTop (mkF m 100 #[.val (.int p1), .val (.int (f0_v6 p1)), .val (.ref w_GREATER), .val (.int (f0_s0_81_9 p1)), .val (.ref y_GREATER), .val (.int (f2 y_GREATER (0 : Int32) w_CS k_GREATER v_GREATER z_v_GREATER c_v_GREATER)), .unset] [(.int (60 : Int32)), (.int (f2 y_GREATER (0 : Int32) w_CS k_GREATER v_GREATER z_v_GREATER c_v_GREATER))])) _
                refine XS.icmpYes X40.here hx rfl (pc0 := 100) (pc' := 110) rfl (hb hby at_100) rfl (teq hc100).1 (by decide) (by decide) ?_
                show Steps p.tables e below (T40.setTop (mkF m 110 #[.val (.int p1), .val (.int (f0_v6 p1)), .val (.ref w_GREATER), .val (.int (f0_s0_81_9 p1)), .val (.ref y_GREATER), .val (.int (f2 y_GREATER (0 : Int32) w_CS k_GREATER v_GREATER z_v_GREATER c_v_GREATER)), .unset] [])) _
                refine XS.iconst X40.here hx rfl (hb hby at_110) ?_
                show Steps p.tables e below (T40.setTop (mkF m 111 #[.val (.int p1), .val (.int (f0_v6 p1)), .val (.ref w_GREATER), .val (.int (f0_s0_81_9 p1)), .val (.ref y_GREATER), .val (.int (f2 y_GREATER (0 : Int32) w_CS k_GREATER v_GREATER z_v_GREATER c_v_GREATER)), .unset] [(.int (1 : Int32))])) _
                refine XS.goto X40.here hx rfl (pc0 := 111) (pc' := 115) rfl (hb hby at_111) (by decide) (by decide) ?_
                exact k
              · have pre73 : ∀ t, Steps p.tables e below (T40.setTop (mkF m 107 #[.val (.int p1), .val (.int (f0_v6 p1)), .val (.ref w_GREATER), .val (.int (f0_s0_81_9 p1)), .val (.ref y_GREATER), .val (.int (f2 y_GREATER (0 : Int32) w_CS k_GREATER v_GREATER z_v_GREATER c_v_GREATER)), .unset] [(.int (62 : Int32)), (.int (f2 y_GREATER (0 : Int32) w_CS k_GREATER v_GREATER z_v_GREATER c_v_GREATER))])) t → Steps p.tables e below (s₁.setTop (entryFrame m #[(.int p1)] maxLocals)) t := by
                  intro t k
                  refine pre70 t ?_
                  show Steps p.tables e below (T40.setTop (mkF m 100 #[.val (.int p1), .val (.int (f0_v6 p1)), .val (.ref w_GREATER), .val (.int (f0_s0_81_9 p1)), .val (.ref y_GREATER), .val (.int (f2 y_GREATER (0 : Int32) w_CS k_GREATER v_GREATER z_v_GREATER c_v_GREATER)), .unset] [(.int (60 : Int32)), (.int (f2 y_GREATER (0 : Int32) w_CS k_GREATER v_GREATER z_v_GREATER c_v_GREATER))])) _
                  refine XS.icmpNo X40.here hx rfl (hb hby at_100) rfl (feq hc100).1 ?_
                  show Steps p.tables e below (T40.setTop (mkF m 103 #[.val (.int p1), .val (.int (f0_v6 p1)), .val (.ref w_GREATER), .val (.int (f0_s0_81_9 p1)), .val (.ref y_GREATER), .val (.int (f2 y_GREATER (0 : Int32) w_CS k_GREATER v_GREATER z_v_GREATER c_v_GREATER)), .unset] [])) _
                  refine XS.iload X40.here hx rfl (hb hby at_103) rfl ?_
                  show Steps p.tables e below (T40.setTop (mkF m 105 #[.val (.int p1), .val (.int (f0_v6 p1)), .val (.ref w_GREATER), .val (.int (f0_s0_81_9 p1)), .val (.ref y_GREATER), .val (.int (f2 y_GREATER (0 : Int32) w_CS k_GREATER v_GREATER z_v_GREATER c_v_GREATER)), .unset] [(.int (f2 y_GREATER (0 : Int32) w_CS k_GREATER v_GREATER z_v_GREATER c_v_GREATER))])) _
                  refine XS.bipush X40.here hx rfl (hb hby at_105) ?_
                  exact k
                by_cases hc107 : (f2 y_GREATER (0 : Int32) w_CS k_GREATER v_GREATER z_v_GREATER c_v_GREATER) = (62 : Int32)
                · have eq74 := (show (f0_s0_115_10 w_CS y_GREATER k_GREATER v_GREATER z_v_GREATER c_v_GREATER) = (1 : Int32) from by unfold f0_s0_115_10; simp only [if_neg hc100, if_pos hc107])
                  try rw [eq74] at k
                  refine pre73 t ?_
                  show Steps p.tables e below (T40.setTop (mkF m 107 #[.val (.int p1), .val (.int (f0_v6 p1)), .val (.ref w_GREATER), .val (.int (f0_s0_81_9 p1)), .val (.ref y_GREATER), .val (.int (f2 y_GREATER (0 : Int32) w_CS k_GREATER v_GREATER z_v_GREATER c_v_GREATER)), .unset] [(.int (62 : Int32)), (.int (f2 y_GREATER (0 : Int32) w_CS k_GREATER v_GREATER z_v_GREATER c_v_GREATER))])) _
                  refine XS.icmpNo X40.here hx rfl (hb hby at_107) rfl (teq hc107).2 ?_
                  show Steps p.tables e below (T40.setTop (mkF m 110 #[.val (.int p1), .val (.int (f0_v6 p1)), .val (.ref w_GREATER), .val (.int (f0_s0_81_9 p1)), .val (.ref y_GREATER), .val (.int (f2 y_GREATER (0 : Int32) w_CS k_GREATER v_GREATER z_v_GREATER c_v_GREATER)), .unset] [])) _
                  refine XS.iconst X40.here hx rfl (hb hby at_110) ?_
                  show Steps p.tables e below (T40.setTop (mkF m 111 #[.val (.int p1), .val (.int (f0_v6 p1)), .val (.ref w_GREATER), .val (.int (f0_s0_81_9 p1)), .val (.ref y_GREATER), .val (.int (f2 y_GREATER (0 : Int32) w_CS k_GREATER v_GREATER z_v_GREATER c_v_GREATER)), .unset] [(.int (1 : Int32))])) _
                  refine XS.goto X40.here hx rfl (pc0 := 111) (pc' := 115) rfl (hb hby at_111) (by decide) (by decide) ?_
                  exact k
                · have eq75 := (show (f0_s0_115_10 w_CS y_GREATER k_GREATER v_GREATER z_v_GREATER c_v_GREATER) = (0 : Int32) from by unfold f0_s0_115_10; simp only [if_neg hc100, if_neg hc107])
                  try rw [eq75] at k
                  refine pre73 t ?_
                  show Steps p.tables e below (T40.setTop (mkF m 107 #[.val (.int p1), .val (.int (f0_v6 p1)), .val (.ref w_GREATER), .val (.int (f0_s0_81_9 p1)), .val (.ref y_GREATER), .val (.int (f2 y_GREATER (0 : Int32) w_CS k_GREATER v_GREATER z_v_GREATER c_v_GREATER)), .unset] [(.int (62 : Int32)), (.int (f2 y_GREATER (0 : Int32) w_CS k_GREATER v_GREATER z_v_GREATER c_v_GREATER))])) _
                  refine XS.icmpYes X40.here hx rfl (pc0 := 107) (pc' := 114) rfl (hb hby at_107) rfl (feq hc107).2 (by decide) (by decide) ?_
                  show Steps p.tables e below (T40.setTop (mkF m 114 #[.val (.int p1), .val (.int (f0_v6 p1)), .val (.ref w_GREATER), .val (.int (f0_s0_81_9 p1)), .val (.ref y_GREATER), .val (.int (f2 y_GREATER (0 : Int32) w_CS k_GREATER v_GREATER z_v_GREATER c_v_GREATER)), .unset] [])) _
                  refine XS.iconst X40.here hx rfl (hb hby at_114) ?_
                  exact k
            obtain ⟨cq41, kq41, q41a, q41b, q41c⟩ := isOf hZ e40 E_w_GREATER
            obtain ⟨_, _, ⟨T41, L41, k41, n41⟩, -, X41, ⟨Lc41, hQ41, l41, y41, z41⟩, st41⟩ := X40.virtualBack hx (y := (⟨"com/example/inline_monitor/inlinemonitor/model/Guard$Relation", "isOrdering", "()Z"⟩ : MethodName)) (z := (⟨"com/example/inline_monitor/inlinemonitor/model/Guard$Relation", "isOrdering", "()Z"⟩ : MethodName)) hown (mvT hZ (hw _ (List.mem_of_getElem? (i := 39) rfl))) (mvT hZ (hw _ (List.mem_of_getElem? (i := 40) rfl))) (notFace_of_selects (args := #[]) (mvT hZ (hw _ (List.mem_of_getElem? (i := 42) rfl)))) (mvT hZ (hw _ (List.mem_of_getElem? (i := 42) rfl))) (mvT hZ (hw _ (List.mem_of_getElem? (i := 41) rfl))) (by decide) (backOf (W := 0) (rm7 l Z a0 hw [] w_GREATER w_EQUAL w_NOT_EQUAL h0 n0 Z0 S_EQUAL S_NOT_EQUAL) hZ (hw _ (List.mem_of_getElem? (i := 43) rfl)) (hw _ (List.mem_of_getElem? (i := 2) rfl)) (by decide) (by decide)) q41a q41c (g := (mkF m 118 #[.val (.int p1), .val (.int (f0_v6 p1)), .val (.ref w_GREATER), .val (.int (f0_s0_81_9 p1)), .val (.ref y_GREATER), .val (.int (f2 y_GREATER (0 : Int32) w_CS k_GREATER v_GREATER z_v_GREATER c_v_GREATER)), .val (.int (f0_s0_115_10 w_CS y_GREATER k_GREATER v_GREATER z_v_GREATER c_v_GREATER))] [(.ref w_GREATER)])) rfl (by rw [hml]; rfl) (Steps.refl _) (argsL := []) (rest := []) (lenOf pd_2 rfl) rfl (by show 2 * 0 + _ ≤ _; exact Nat.le_of_eq rfl) (hb hby at_118) (fun _ _ => ⟨rfl, e40, (by decide : 0 + 0 ≤ _), (by decide : 0 + 0 ≤ _)⟩)
            dsimp only [Pt.U, Pt.locs, Pt.cells, Pt.slots] at X41 l41 y41 z41 st41 hQ41
            subst l41 y41 z41
            obtain ⟨rfl, N41q, e41⟩ := hQ41
            have N41 := Fr.app N40 N41q
            have pre76 : ∀ t, Steps p.tables e below (T41.setTop (mkF m 122 #[.val (.int p1), .val (.int (f0_v6 p1)), .val (.ref w_GREATER), .val (.int (f0_s0_81_9 p1)), .val (.ref y_GREATER), .val (.int (f2 y_GREATER (0 : Int32) w_CS k_GREATER v_GREATER z_v_GREATER c_v_GREATER)), .val (.int (f0_s0_115_10 w_CS y_GREATER k_GREATER v_GREATER z_v_GREATER c_v_GREATER))] [(.int (f0_s0_81_9 p1)), (.int (f7 w_GREATER w_EQUAL w_NOT_EQUAL))])) t → Steps p.tables e below (s₁.setTop (entryFrame m #[(.int p1)] maxLocals)) t := by
              intro t k
              refine pre71 t ?_
              show Steps p.tables e below (T40.setTop (mkF m 115 #[.val (.int p1), .val (.int (f0_v6 p1)), .val (.ref w_GREATER), .val (.int (f0_s0_81_9 p1)), .val (.ref y_GREATER), .val (.int (f2 y_GREATER (0 : Int32) w_CS k_GREATER v_GREATER z_v_GREATER c_v_GREATER)), .unset] [(.int (f0_s0_115_10 w_CS y_GREATER k_GREATER v_GREATER z_v_GREATER c_v_GREATER))])) _
              refine XS.istore X40.here hx rfl (hb hby at_115) rfl (l' := #[.val (.int p1), .val (.int (f0_v6 p1)), .val (.ref w_GREATER), .val (.int (f0_s0_81_9 p1)), .val (.ref y_GREATER), .val (.int (f2 y_GREATER (0 : Int32) w_CS k_GREATER v_GREATER z_v_GREATER c_v_GREATER)), .val (.int (f0_s0_115_10 w_CS y_GREATER k_GREATER v_GREATER z_v_GREATER c_v_GREATER))]) rfl ?_
              show Steps p.tables e below (T40.setTop (mkF m 117 #[.val (.int p1), .val (.int (f0_v6 p1)), .val (.ref w_GREATER), .val (.int (f0_s0_81_9 p1)), .val (.ref y_GREATER), .val (.int (f2 y_GREATER (0 : Int32) w_CS k_GREATER v_GREATER z_v_GREATER c_v_GREATER)), .val (.int (f0_s0_115_10 w_CS y_GREATER k_GREATER v_GREATER z_v_GREATER c_v_GREATER))] [])) _
              refine XS.aloadN X40.here hx rfl (hb hby at_117) rfl rfl ?_
              show Steps p.tables e below (T40.setTop (mkF m 118 #[.val (.int p1), .val (.int (f0_v6 p1)), .val (.ref w_GREATER), .val (.int (f0_s0_81_9 p1)), .val (.ref y_GREATER), .val (.int (f2 y_GREATER (0 : Int32) w_CS k_GREATER v_GREATER z_v_GREATER c_v_GREATER)), .val (.int (f0_s0_115_10 w_CS y_GREATER k_GREATER v_GREATER z_v_GREATER c_v_GREATER))] [(.ref w_GREATER)])) _
              refine st41.trans ?_
              show Steps p.tables e below (T41.setTop (mkF m 121 #[.val (.int p1), .val (.int (f0_v6 p1)), .val (.ref w_GREATER), .val (.int (f0_s0_81_9 p1)), .val (.ref y_GREATER), .val (.int (f2 y_GREATER (0 : Int32) w_CS k_GREATER v_GREATER z_v_GREATER c_v_GREATER)), .val (.int (f0_s0_115_10 w_CS y_GREATER k_GREATER v_GREATER z_v_GREATER c_v_GREATER))] [(.int (f7 w_GREATER w_EQUAL w_NOT_EQUAL))])) _
              refine XS.iloadN X41.here hx rfl (hb hby at_121) rfl ?_
              exact k
            by_cases hc122 : (f7 w_GREATER w_EQUAL w_NOT_EQUAL) = (f0_s0_81_9 p1)
            · have pre77 : ∀ t, Steps p.tables e below (T41.setTop (mkF m 128 #[.val (.int p1), .val (.int (f0_v6 p1)), .val (.ref w_GREATER), .val (.int (f0_s0_81_9 p1)), .val (.ref y_GREATER), .val (.int (f2 y_GREATER (0 : Int32) w_CS k_GREATER v_GREATER z_v_GREATER c_v_GREATER)), .val (.int (f0_s0_115_10 w_CS y_GREATER k_GREATER v_GREATER z_v_GREATER c_v_GREATER))] [(.int (f0_s0_115_10 w_CS y_GREATER k_GREATER v_GREATER z_v_GREATER c_v_GREATER)), (.int (f0_s0_81_9 p1))])) t → Steps p.tables e below (s₁.setTop (entryFrame m #[(.int p1)] maxLocals)) t := by
                intro t k
                refine pre76 t ?_
                show Steps p.tables e below (T41.setTop (mkF m 122 #[.val (.int p1), .val (.int (f0_v6 p1)), .val (.ref w_GREATER), .val (.int (f0_s0_81_9 p1)), .val (.ref y_GREATER), .val (.int (f2 y_GREATER (0 : Int32) w_CS k_GREATER v_GREATER z_v_GREATER c_v_GREATER)), .val (.int (f0_s0_115_10 w_CS y_GREATER k_GREATER v_GREATER z_v_GREATER c_v_GREATER))] [(.int (f0_s0_81_9 p1)), (.int (f7 w_GREATER w_EQUAL w_NOT_EQUAL))])) _
                refine XS.icmpNo X41.here hx rfl (hb hby at_122) rfl (teq hc122).2 ?_
                show Steps p.tables e below (T41.setTop (mkF m 125 #[.val (.int p1), .val (.int (f0_v6 p1)), .val (.ref w_GREATER), .val (.int (f0_s0_81_9 p1)), .val (.ref y_GREATER), .val (.int (f2 y_GREATER (0 : Int32) w_CS k_GREATER v_GREATER z_v_GREATER c_v_GREATER)), .val (.int (f0_s0_115_10 w_CS y_GREATER k_GREATER v_GREATER z_v_GREATER c_v_GREATER))] [])) _
                refine XS.iloadN X41.here hx rfl (hb hby at_125) rfl ?_
                show Steps p.tables e below (T41.setTop (mkF m 126 #[.val (.int p1), .val (.int (f0_v6 p1)), .val (.ref w_GREATER), .val (.int (f0_s0_81_9 p1)), .val (.ref y_GREATER), .val (.int (f2 y_GREATER (0 : Int32) w_CS k_GREATER v_GREATER z_v_GREATER c_v_GREATER)), .val (.int (f0_s0_115_10 w_CS y_GREATER k_GREATER v_GREATER z_v_GREATER c_v_GREATER))] [(.int (f0_s0_81_9 p1))])) _
                refine XS.iload X41.here hx rfl (hb hby at_126) rfl ?_
                exact k
              by_cases hc128 : (f0_s0_81_9 p1) = (f0_s0_115_10 w_CS y_GREATER k_GREATER v_GREATER z_v_GREATER c_v_GREATER)
              · have eq78 : (f0 p1 w_EQUAL w_NOT_EQUAL w_LESS w_LESS_OR_EQUAL w_GREATER w_GREATER_OR_EQUAL w_CS y_EQUAL k_EQUAL v_EQUAL z_v_EQUAL c_v_EQUAL y_NOT_EQUAL k_NOT_EQUAL v_NOT_EQUAL z_v_NOT_EQUAL c_v_NOT_EQUAL y_LESS k_LESS v_LESS z_v_LESS c_v_LESS y_LESS_OR_EQUAL k_LESS_OR_EQUAL v_LESS_OR_EQUAL z_v_LESS_OR_EQUAL c_v_LESS_OR_EQUAL y_GREATER k_GREATER v_GREATER z_v_GREATER c_v_GREATER y_GREATER_OR_EQUAL k_GREATER_OR_EQUAL v_GREATER_OR_EQUAL z_v_GREATER_OR_EQUAL c_v_GREATER_OR_EQUAL) = (1 : Int32) := by unfold f0; simp only [if_neg hc9, if_neg hc21, if_neg hc33, if_neg hc45, if_pos hc57, if_pos hc122, if_pos hc128]
                obtain ⟨fs, hr, hrun, hended, hW, hsame⟩ := X41.leave (v := some (.int (1 : Int32))) (fun h => by rw [Bd.returns] at h; cases h)
                refine ⟨_, _, pre77 _ ?_, hrun, hended, _, _, rfl, ?_, ⟨_, rfl⟩, hW, hsame.mono (by decide) (by decide)⟩
                · show Steps p.tables e below (T41.setTop (mkF m 128 #[.val (.int p1), .val (.int (f0_v6 p1)), .val (.ref w_GREATER), .val (.int (f0_s0_81_9 p1)), .val (.ref y_GREATER), .val (.int (f2 y_GREATER (0 : Int32) w_CS k_GREATER v_GREATER z_v_GREATER c_v_GREATER)), .val (.int (f0_s0_115_10 w_CS y_GREATER k_GREATER v_GREATER z_v_GREATER c_v_GREATER))] [(.int (f0_s0_115_10 w_CS y_GREATER k_GREATER v_GREATER z_v_GREATER c_v_GREATER)), (.int (f0_s0_81_9 p1))])) _
                  refine XS.icmpNo X41.here hx rfl (hb hby at_128) rfl (teq hc128).2 ?_
                  show Steps p.tables e below (T41.setTop (mkF m 131 #[.val (.int p1), .val (.int (f0_v6 p1)), .val (.ref w_GREATER), .val (.int (f0_s0_81_9 p1)), .val (.ref y_GREATER), .val (.int (f2 y_GREATER (0 : Int32) w_CS k_GREATER v_GREATER z_v_GREATER c_v_GREATER)), .val (.int (f0_s0_115_10 w_CS y_GREATER k_GREATER v_GREATER z_v_GREATER c_v_GREATER))] [])) _
                  refine XS.iconst X41.here hx rfl (hb hby at_131) ?_
                  show Steps p.tables e below (T41.setTop (mkF m 132 #[.val (.int p1), .val (.int (f0_v6 p1)), .val (.ref w_GREATER), .val (.int (f0_s0_81_9 p1)), .val (.ref y_GREATER), .val (.int (f2 y_GREATER (0 : Int32) w_CS k_GREATER v_GREATER z_v_GREATER c_v_GREATER)), .val (.int (f0_s0_115_10 w_CS y_GREATER k_GREATER v_GREATER z_v_GREATER c_v_GREATER))] [(.int (1 : Int32))])) _
                  refine XS.goto X41.here hx rfl (pc0 := 132) (pc' := 136) rfl (hb hby at_132) (by decide) (by decide) ?_
                  show Steps p.tables e below (T41.setTop (mkF m 136 #[.val (.int p1), .val (.int (f0_v6 p1)), .val (.ref w_GREATER), .val (.int (f0_s0_81_9 p1)), .val (.ref y_GREATER), .val (.int (f2 y_GREATER (0 : Int32) w_CS k_GREATER v_GREATER z_v_GREATER c_v_GREATER)), .val (.int (f0_s0_115_10 w_CS y_GREATER k_GREATER v_GREATER z_v_GREATER c_v_GREATER))] [(.int (1 : Int32))])) _
                  exact retN X41 hx (t := .boolean) Bd.returns (by simp) (hb hby at_136) hr
                · show Q0 Z p1 w_EQUAL w_NOT_EQUAL w_LESS w_LESS_OR_EQUAL w_GREATER w_GREATER_OR_EQUAL w_CS w_SIO y_EQUAL k_EQUAL v_EQUAL z_v_EQUAL c_v_EQUAL y_NOT_EQUAL k_NOT_EQUAL v_NOT_EQUAL z_v_NOT_EQUAL c_v_NOT_EQUAL y_LESS k_LESS v_LESS z_v_LESS c_v_LESS y_LESS_OR_EQUAL k_LESS_OR_EQUAL v_LESS_OR_EQUAL z_v_LESS_OR_EQUAL c_v_LESS_OR_EQUAL y_GREATER k_GREATER v_GREATER z_v_GREATER c_v_GREATER y_GREATER_OR_EQUAL k_GREATER_OR_EQUAL v_GREATER_OR_EQUAL z_v_GREATER_OR_EQUAL c_v_GREATER_OR_EQUAL h0 n0 _ T41.heap _
                  rw [e41]
                  exact ⟨by rw [eq78], N41, trivial⟩
              · have eq79 : (f0 p1 w_EQUAL w_NOT_EQUAL w_LESS w_LESS_OR_EQUAL w_GREATER w_GREATER_OR_EQUAL w_CS y_EQUAL k_EQUAL v_EQUAL z_v_EQUAL c_v_EQUAL y_NOT_EQUAL k_NOT_EQUAL v_NOT_EQUAL z_v_NOT_EQUAL c_v_NOT_EQUAL y_LESS k_LESS v_LESS z_v_LESS c_v_LESS y_LESS_OR_EQUAL k_LESS_OR_EQUAL v_LESS_OR_EQUAL z_v_LESS_OR_EQUAL c_v_LESS_OR_EQUAL y_GREATER k_GREATER v_GREATER z_v_GREATER c_v_GREATER y_GREATER_OR_EQUAL k_GREATER_OR_EQUAL v_GREATER_OR_EQUAL z_v_GREATER_OR_EQUAL c_v_GREATER_OR_EQUAL) = (0 : Int32) := by unfold f0; simp only [if_neg hc9, if_neg hc21, if_neg hc33, if_neg hc45, if_pos hc57, if_pos hc122, if_neg hc128]
                obtain ⟨fs, hr, hrun, hended, hW, hsame⟩ := X41.leave (v := some (.int (0 : Int32))) (fun h => by rw [Bd.returns] at h; cases h)
                refine ⟨_, _, pre77 _ ?_, hrun, hended, _, _, rfl, ?_, ⟨_, rfl⟩, hW, hsame.mono (by decide) (by decide)⟩
                · show Steps p.tables e below (T41.setTop (mkF m 128 #[.val (.int p1), .val (.int (f0_v6 p1)), .val (.ref w_GREATER), .val (.int (f0_s0_81_9 p1)), .val (.ref y_GREATER), .val (.int (f2 y_GREATER (0 : Int32) w_CS k_GREATER v_GREATER z_v_GREATER c_v_GREATER)), .val (.int (f0_s0_115_10 w_CS y_GREATER k_GREATER v_GREATER z_v_GREATER c_v_GREATER))] [(.int (f0_s0_115_10 w_CS y_GREATER k_GREATER v_GREATER z_v_GREATER c_v_GREATER)), (.int (f0_s0_81_9 p1))])) _
                  refine XS.icmpYes X41.here hx rfl (pc0 := 128) (pc' := 135) rfl (hb hby at_128) rfl (feq hc128).2 (by decide) (by decide) ?_
                  show Steps p.tables e below (T41.setTop (mkF m 135 #[.val (.int p1), .val (.int (f0_v6 p1)), .val (.ref w_GREATER), .val (.int (f0_s0_81_9 p1)), .val (.ref y_GREATER), .val (.int (f2 y_GREATER (0 : Int32) w_CS k_GREATER v_GREATER z_v_GREATER c_v_GREATER)), .val (.int (f0_s0_115_10 w_CS y_GREATER k_GREATER v_GREATER z_v_GREATER c_v_GREATER))] [])) _
                  refine XS.iconst X41.here hx rfl (hb hby at_135) ?_
                  show Steps p.tables e below (T41.setTop (mkF m 136 #[.val (.int p1), .val (.int (f0_v6 p1)), .val (.ref w_GREATER), .val (.int (f0_s0_81_9 p1)), .val (.ref y_GREATER), .val (.int (f2 y_GREATER (0 : Int32) w_CS k_GREATER v_GREATER z_v_GREATER c_v_GREATER)), .val (.int (f0_s0_115_10 w_CS y_GREATER k_GREATER v_GREATER z_v_GREATER c_v_GREATER))] [(.int (0 : Int32))])) _
                  exact retN X41 hx (t := .boolean) Bd.returns (by simp) (hb hby at_136) hr
                · show Q0 Z p1 w_EQUAL w_NOT_EQUAL w_LESS w_LESS_OR_EQUAL w_GREATER w_GREATER_OR_EQUAL w_CS w_SIO y_EQUAL k_EQUAL v_EQUAL z_v_EQUAL c_v_EQUAL y_NOT_EQUAL k_NOT_EQUAL v_NOT_EQUAL z_v_NOT_EQUAL c_v_NOT_EQUAL y_LESS k_LESS v_LESS z_v_LESS c_v_LESS y_LESS_OR_EQUAL k_LESS_OR_EQUAL v_LESS_OR_EQUAL z_v_LESS_OR_EQUAL c_v_LESS_OR_EQUAL y_GREATER k_GREATER v_GREATER z_v_GREATER c_v_GREATER y_GREATER_OR_EQUAL k_GREATER_OR_EQUAL v_GREATER_OR_EQUAL z_v_GREATER_OR_EQUAL c_v_GREATER_OR_EQUAL h0 n0 _ T41.heap _
                  rw [e41]
                  exact ⟨by rw [eq79], N41, trivial⟩
            · have eq80 : (f0 p1 w_EQUAL w_NOT_EQUAL w_LESS w_LESS_OR_EQUAL w_GREATER w_GREATER_OR_EQUAL w_CS y_EQUAL k_EQUAL v_EQUAL z_v_EQUAL c_v_EQUAL y_NOT_EQUAL k_NOT_EQUAL v_NOT_EQUAL z_v_NOT_EQUAL c_v_NOT_EQUAL y_LESS k_LESS v_LESS z_v_LESS c_v_LESS y_LESS_OR_EQUAL k_LESS_OR_EQUAL v_LESS_OR_EQUAL z_v_LESS_OR_EQUAL c_v_LESS_OR_EQUAL y_GREATER k_GREATER v_GREATER z_v_GREATER c_v_GREATER y_GREATER_OR_EQUAL k_GREATER_OR_EQUAL v_GREATER_OR_EQUAL z_v_GREATER_OR_EQUAL c_v_GREATER_OR_EQUAL) = (0 : Int32) := by unfold f0; simp only [if_neg hc9, if_neg hc21, if_neg hc33, if_neg hc45, if_pos hc57, if_neg hc122]
              obtain ⟨fs, hr, hrun, hended, hW, hsame⟩ := X41.leave (v := some (.int (0 : Int32))) (fun h => by rw [Bd.returns] at h; cases h)
              refine ⟨_, _, pre76 _ ?_, hrun, hended, _, _, rfl, ?_, ⟨_, rfl⟩, hW, hsame.mono (by decide) (by decide)⟩
              · show Steps p.tables e below (T41.setTop (mkF m 122 #[.val (.int p1), .val (.int (f0_v6 p1)), .val (.ref w_GREATER), .val (.int (f0_s0_81_9 p1)), .val (.ref y_GREATER), .val (.int (f2 y_GREATER (0 : Int32) w_CS k_GREATER v_GREATER z_v_GREATER c_v_GREATER)), .val (.int (f0_s0_115_10 w_CS y_GREATER k_GREATER v_GREATER z_v_GREATER c_v_GREATER))] [(.int (f0_s0_81_9 p1)), (.int (f7 w_GREATER w_EQUAL w_NOT_EQUAL))])) _
                refine XS.icmpYes X41.here hx rfl (pc0 := 122) (pc' := 135) rfl (hb hby at_122) rfl (feq hc122).2 (by decide) (by decide) ?_
                show Steps p.tables e below (T41.setTop (mkF m 135 #[.val (.int p1), .val (.int (f0_v6 p1)), .val (.ref w_GREATER), .val (.int (f0_s0_81_9 p1)), .val (.ref y_GREATER), .val (.int (f2 y_GREATER (0 : Int32) w_CS k_GREATER v_GREATER z_v_GREATER c_v_GREATER)), .val (.int (f0_s0_115_10 w_CS y_GREATER k_GREATER v_GREATER z_v_GREATER c_v_GREATER))] [])) _
                refine XS.iconst X41.here hx rfl (hb hby at_135) ?_
                show Steps p.tables e below (T41.setTop (mkF m 136 #[.val (.int p1), .val (.int (f0_v6 p1)), .val (.ref w_GREATER), .val (.int (f0_s0_81_9 p1)), .val (.ref y_GREATER), .val (.int (f2 y_GREATER (0 : Int32) w_CS k_GREATER v_GREATER z_v_GREATER c_v_GREATER)), .val (.int (f0_s0_115_10 w_CS y_GREATER k_GREATER v_GREATER z_v_GREATER c_v_GREATER))] [(.int (0 : Int32))])) _
                exact retN X41 hx (t := .boolean) Bd.returns (by simp) (hb hby at_136) hr
              · show Q0 Z p1 w_EQUAL w_NOT_EQUAL w_LESS w_LESS_OR_EQUAL w_GREATER w_GREATER_OR_EQUAL w_CS w_SIO y_EQUAL k_EQUAL v_EQUAL z_v_EQUAL c_v_EQUAL y_NOT_EQUAL k_NOT_EQUAL v_NOT_EQUAL z_v_NOT_EQUAL c_v_NOT_EQUAL y_LESS k_LESS v_LESS z_v_LESS c_v_LESS y_LESS_OR_EQUAL k_LESS_OR_EQUAL v_LESS_OR_EQUAL z_v_LESS_OR_EQUAL c_v_LESS_OR_EQUAL y_GREATER k_GREATER v_GREATER z_v_GREATER c_v_GREATER y_GREATER_OR_EQUAL k_GREATER_OR_EQUAL v_GREATER_OR_EQUAL z_v_GREATER_OR_EQUAL c_v_GREATER_OR_EQUAL h0 n0 _ T41.heap _
                rw [e41]
                exact ⟨by rw [eq80], N41, trivial⟩
          · obtain ⟨T42, X42, e42, st42⟩ := getS2 X0 hx hZ hown (host := "") (Or.inl (hw _ (List.mem_of_getElem? (i := 52) rfl))) Via.refl e0 S_GREATER_OR_EQUAL (g := (mkF m 67 #[.val (.int p1), .val (.int (f0_v6 p1)), .unset, .unset, .unset, .unset, .unset] [])) rfl (hb hby at_67)
            have pre81 : ∀ t, Steps p.tables e below (T42.setTop (mkF m 73 #[.val (.int p1), .val (.int (f0_v6 p1)), .val (.ref w_GREATER_OR_EQUAL), .unset, .unset, .unset, .unset] [(.int (2 : Int32)), (.int (f0_v6 p1))])) t → Steps p.tables e below (s₁.setTop (entryFrame m #[(.int p1)] maxLocals)) t := by
              intro t k
              refine pre65 t ?_
              show Steps p.tables e below (s₁.setTop (mkF m 57 #[.val (.int p1), .val (.int (f0_v6 p1)), .unset, .unset, .unset, .unset, .unset] [(.int (4 : Int32)), (.int (f0_v6 p1))])) _
              refine XS.icmpYes X0.here hx rfl (pc0 := 57) (pc' := 67) rfl (hb hby at_57) rfl (feq hc57).2 (by decide) (by decide) ?_
              show Steps p.tables e below (s₁.setTop (mkF m 67 #[.val (.int p1), .val (.int (f0_v6 p1)), .unset, .unset, .unset, .unset, .unset] [])) _
              refine st42 _ ?_
              show Steps p.tables e below (T42.setTop (mkF m 70 #[.val (.int p1), .val (.int (f0_v6 p1)), .unset, .unset, .unset, .unset, .unset] [(.ref w_GREATER_OR_EQUAL)])) _
              refine XS.astoreN X42.here hx rfl (hb hby at_70) rfl rfl (l' := #[.val (.int p1), .val (.int (f0_v6 p1)), .val (.ref w_GREATER_OR_EQUAL), .unset, .unset, .unset, .unset]) rfl ?_
              show Steps p.tables e below (T42.setTop (mkF m 71 #[.val (.int p1), .val (.int (f0_v6 p1)), .val (.ref w_GREATER_OR_EQUAL), .unset, .unset, .unset, .unset] [])) _
              refine XS.iloadN X42.here hx rfl (hb hby at_71) rfl ?_
              show Steps p.tables e below (T42.setTop (mkF m 72 #[.val (.int p1), .val (.int (f0_v6 p1)), .val (.ref w_GREATER_OR_EQUAL), .unset, .unset, .unset, .unset] [(.int (f0_v6 p1))])) _
              refine XS.iconst X42.here hx rfl (hb hby at_72) ?_
              exact k
            have pre82 : ∀ t, Steps p.tables e below (T42.setTop (mkF m 81 #[.val (.int p1), .val (.int (f0_v6 p1)), .val (.ref w_GREATER_OR_EQUAL), .unset, .unset, .unset, .unset] [(.int (f0_s0_81_11 p1))])) t → Steps p.tables e below (s₁.setTop (entryFrame m #[(.int p1)] maxLocals)) t := by
              intro t k
              by_cases hc73 : (f0_v6 p1) < (2 : Int32)
              · have eq83 := (show (f0_s0_81_11 p1) = (0 : Int32) from by unfold f0_s0_81_11; simp only [if_pos hc73])
                try rw [eq83] at k
                refine pre81 t ?_
                show Steps p.tables e below (T42.setTop (mkF m 73 #[.val (.int p1), .val (.int (f0_v6 p1)), .val (.ref w_GREATER_OR_EQUAL), .unset, .unset, .unset, .unset] [(.int (2 : Int32)), (.int (f0_v6 p1))])) _
                refine XS.icmpYes X42.here hx rfl (pc0 := 73) (pc' := 80) rfl (hb hby at_73) rfl (tlt hc73).1 (by decide) (by decide) ?_
                show Steps p.tables e below (T42.setTop (mkF m 80 #[.val (.int p1), .val (.int (f0_v6 p1)), .val (.ref w_GREATER_OR_EQUAL), .unset, .unset, .unset, .unset] [])) _
                refine XS.iconst X42.here hx rfl (hb hby at_80) ?_
                exact k
              · have eq84 := (show (f0_s0_81_11 p1) = (1 : Int32) from by unfold f0_s0_81_11; simp only [if_neg hc73])
                try rw [eq84] at k
                refine pre81 t ?_
                show Steps p.tables e below (T42.setTop (mkF m 73 #[.val (.int p1), .val (.int (f0_v6 p1)), .val (.ref w_GREATER_OR_EQUAL), .unset, .unset, .unset, .unset] [(.int (2 : Int32)), (.int (f0_v6 p1))])) _
                refine XS.icmpNo X42.here hx rfl (hb hby at_73) rfl (flt hc73).1 ?_
                show Steps p.tables e below (T42.setTop (mkF m 76 #[.val (.int p1), .val (.int (f0_v6 p1)), .val (.ref w_GREATER_OR_EQUAL), .unset, .unset, .unset, .unset] [])) _
                refine XS.iconst X42.here hx rfl (hb hby at_76) ?_
                show Steps p.tables e below (T42.setTop (mkF m 77 #[.val (.int p1), .val (.int (f0_v6 p1)), .val (.ref w_GREATER_OR_EQUAL), .unset, .unset, .unset, .unset] [(.int (1 : Int32))])) _
                refine XS.goto X42.here hx rfl (pc0 := 77) (pc' := 81) rfl (hb hby at_77) (by decide) (by decide) ?_
                exact k
            obtain ⟨cq43, kq43, q43a, q43b, q43c⟩ := isOf hZ e42 E_w_GREATER_OR_EQUAL
            obtain ⟨_, _, ⟨T43, L43, k43, n43⟩, -, X43, ⟨Lc43, hQ43, l43, y43, z43⟩, st43⟩ := X42.virtualBack hx (y := (⟨"com/example/inline_monitor/inlinemonitor/model/Guard$Relation", "symbol", "()Ljava/lang/String;"⟩ : MethodName)) (z := (⟨"com/example/inline_monitor/inlinemonitor/model/Guard$Relation", "symbol", "()Ljava/lang/String;"⟩ : MethodName)) hown (mvT hZ (hw _ (List.mem_of_getElem? (i := 4) rfl))) (mvT hZ (hw _ (List.mem_of_getElem? (i := 5) rfl))) (notFace_of_selects (args := #[]) (mvT hZ (hw _ (List.mem_of_getElem? (i := 7) rfl)))) (mvT hZ (hw _ (List.mem_of_getElem? (i := 7) rfl))) (mvT hZ (hw _ (List.mem_of_getElem? (i := 6) rfl))) (by decide) (backOf (W := 0) (rm1 l Z a0 hw [] w_GREATER_OR_EQUAL y_GREATER_OR_EQUAL h0 n0 Z0 F_symbol_w_GREATER_OR_EQUAL) hZ (hw _ (List.mem_of_getElem? (i := 8) rfl)) (hw _ (List.mem_of_getElem? (i := 2) rfl)) (by decide) (by decide)) q43a q43c (g := (mkF m 83 #[.val (.int p1), .val (.int (f0_v6 p1)), .val (.ref w_GREATER_OR_EQUAL), .val (.int (f0_s0_81_11 p1)), .unset, .unset, .unset] [(.ref w_GREATER_OR_EQUAL)])) rfl (by rw [hml]; rfl) (Steps.refl _) (argsL := []) (rest := []) (lenOf pd_4 rfl) rfl (by show 2 * 0 + _ ≤ _; exact Nat.le_of_eq rfl) (hb hby at_83) (fun _ _ => ⟨rfl, e42, (by decide : 0 + 0 ≤ _), (by decide : 0 + 0 ≤ _)⟩)
            dsimp only [Pt.U, Pt.locs, Pt.cells, Pt.slots] at X43 l43 y43 z43 st43 hQ43
            subst l43 y43 z43
            obtain ⟨rfl, N43q, e43⟩ := hQ43
            have N43 := Fr.app N0 N43q
            obtain ⟨cq44, kq44, q44a, q44b, q44c⟩ := isOf hZ e43 E_y_GREATER_OR_EQUAL
            obtain ⟨_, _, ⟨T44, L44, k44, n44⟩, -, X44, ⟨Lc44, hQ44, l44, y44, z44⟩, st44⟩ := X43.virtualBack hx (y := (⟨"java/lang/String", "charAt", "(I)C"⟩ : MethodName)) (z := (⟨"java/lang/String", "charAt", "(I)C"⟩ : MethodName)) hown (mvT hZ (hw _ (List.mem_of_getElem? (i := 11) rfl))) (mvT hZ (hw _ (List.mem_of_getElem? (i := 12) rfl))) (notFace_of_selects (args := #[]) (mvT hZ (hw _ (List.mem_of_getElem? (i := 14) rfl)))) (mvT hZ (hw _ (List.mem_of_getElem? (i := 14) rfl))) (mvT hZ (hw _ (List.mem_of_getElem? (i := 13) rfl))) (by decide) (backOf (W := 0) (rm2 l Z a0 hw [] y_GREATER_OR_EQUAL (0 : Int32) w_CS k_GREATER_OR_EQUAL v_GREATER_OR_EQUAL z_v_GREATER_OR_EQUAL c_v_GREATER_OR_EQUAL w_SIO h0 n0 Z0 E_y_GREATER_OR_EQUAL S_COMPACT_STRINGS hcs F_coder_y_GREATER_OR_EQUAL hk_GREATER_OR_EQUAL F_value_y_GREATER_OR_EQUAL V_v_GREATER_OR_EQUAL S_SIOOBE_FORMATTER hcat ⟨by decide, hl_GREATER_OR_EQUAL⟩) hZ (hw _ (List.mem_of_getElem? (i := 16) rfl)) (hw _ (List.mem_of_getElem? (i := 15) rfl)) (by decide) (by decide)) q44a q44c (g := (mkF m 91 #[.val (.int p1), .val (.int (f0_v6 p1)), .val (.ref w_GREATER_OR_EQUAL), .val (.int (f0_s0_81_11 p1)), .val (.ref y_GREATER_OR_EQUAL), .unset, .unset] [(.int (0 : Int32)), (.ref y_GREATER_OR_EQUAL)])) rfl (by rw [hml]; rfl) (Steps.refl _) (argsL := [(.int (0 : Int32))]) (rest := []) (lenOf pd_5 rfl) rfl (by show 2 * 0 + _ ≤ _; exact Nat.le_of_eq rfl) (hb hby at_91) (fun _ _ => ⟨rfl, e43, (by decide : 0 + 0 ≤ _), (by decide : 0 + 0 ≤ _)⟩)
            dsimp only [Pt.U, Pt.locs, Pt.cells, Pt.slots] at X44 l44 y44 z44 st44 hQ44
            subst l44 y44 z44
            obtain ⟨rfl, N44q, e44⟩ := hQ44
            have N44 := Fr.app N43 N44q
            have pre85 : ∀ t, Steps p.tables e below (T44.setTop (mkF m 100 #[.val (.int p1), .val (.int (f0_v6 p1)), .val (.ref w_GREATER_OR_EQUAL), .val (.int (f0_s0_81_11 p1)), .val (.ref y_GREATER_OR_EQUAL), .val (.int (f0_v94_12 w_CS y_GREATER_OR_EQUAL k_GREATER_OR_EQUAL v_GREATER_OR_EQUAL z_v_GREATER_OR_EQUAL c_v_GREATER_OR_EQUAL)), .unset] [(.int (60 : Int32)), (.int (f0_v94_12 w_CS y_GREATER_OR_EQUAL k_GREATER_OR_EQUAL v_GREATER_OR_EQUAL z_v_GREATER_OR_EQUAL c_v_GREATER_OR_EQUAL))])) t → Steps p.tables e below (s₁.setTop (entryFrame m #[(.int p1)] maxLocals)) t := by
              intro t k
              refine pre82 t ?_
              show Steps p.tables e below (T42.setTop (mkF m 81 #[.val (.int p1), .val (.int (f0_v6 p1)), .val (.ref w_GREATER_OR_EQUAL), .unset, .unset, .unset, .unset] [(.int (f0_s0_81_11 p1))])) _
              refine XS.istoreN X42.here hx rfl (hb hby at_81) rfl (l' := #[.val (.int p1), .val (.int (f0_v6 p1)), .val (.ref w_GREATER_OR_EQUAL), .val (.int (f0_s0_81_11 p1)), .unset, .unset, .unset]) rfl ?_
              show Steps p.tables e below (T42.setTop (mkF m 82 #[.val (.int p1), .val (.int (f0_v6 p1)), .val (.ref w_GREATER_OR_EQUAL), .val (.int (f0_s0_81_11 p1)), .unset, .unset, .unset] [])) _
              refine XS.aloadN X42.here hx rfl (hb hby at_82) rfl rfl ?_
              show Steps p.tables e below (T42.setTop (mkF m 83 #[.val (.int p1), .val (.int (f0_v6 p1)), .val (.ref w_GREATER_OR_EQUAL), .val (.int (f0_s0_81_11 p1)), .unset, .unset, .unset] [(.ref w_GREATER_OR_EQUAL)])) _
              refine st43.trans ?_
              show Steps p.tables e below (T43.setTop (mkF m 86 #[.val (.int p1), .val (.int (f0_v6 p1)), .val (.ref w_GREATER_OR_EQUAL), .val (.int (f0_s0_81_11 p1)), .unset, .unset, .unset] [(.ref y_GREATER_OR_EQUAL)])) _
              refine XS.astore X43.here hx rfl (hb hby at_86) rfl rfl (l' := #[.val (.int p1), .val (.int (f0_v6 p1)), .val (.ref w_GREATER_OR_EQUAL), .val (.int (f0_s0_81_11 p1)), .val (.ref y_GREATER_OR_EQUAL), .unset, .unset]) rfl ?_
              show Steps p.tables e below (T43.setTop (mkF m 88 #[.val (.int p1), .val (.int (f0_v6 p1)), .val (.ref w_GREATER_OR_EQUAL), .val (.int (f0_s0_81_11 p1)), .val (.ref y_GREATER_OR_EQUAL), .unset, .unset] [])) _
              refine XS.aload X43.here hx rfl (hb hby at_88) rfl rfl ?_
              show Steps p.tables e below (T43.setTop (mkF m 90 #[.val (.int p1), .val (.int (f0_v6 p1)), .val (.ref w_GREATER_OR_EQUAL), .val (.int (f0_s0_81_11 p1)), .val (.ref y_GREATER_OR_EQUAL), .unset, .unset] [(.ref y_GREATER_OR_EQUAL)])) _
              refine XS.iconst X43.here hx rfl (hb hby at_90) ?_
              show Steps p.tables e below (T43.setTop (mkF m 91 #[.val (.int p1), .val (.int (f0_v6 p1)), .val (.ref w_GREATER_OR_EQUAL), .val (.int (f0_s0_81_11 p1)), .val (.ref y_GREATER_OR_EQUAL), .unset, .unset] [(.int (0 : Int32)), (.ref y_GREATER_OR_EQUAL)])) _
              refine st44.trans ?_
              show Steps p.tables e below (T44.setTop (mkF m 94 #[.val (.int p1), .val (.int (f0_v6 p1)), .val (.ref w_GREATER_OR_EQUAL), .val (.int (f0_s0_81_11 p1)), .val (.ref y_GREATER_OR_EQUAL), .unset, .unset] [(.int (f2 y_GREATER_OR_EQUAL (0 : Int32) w_CS k_GREATER_OR_EQUAL v_GREATER_OR_EQUAL z_v_GREATER_OR_EQUAL c_v_GREATER_OR_EQUAL))])) _
              refine XS.istore X44.here hx rfl (hb hby at_94) rfl (l' := #[.val (.int p1), .val (.int (f0_v6 p1)), .val (.ref w_GREATER_OR_EQUAL), .val (.int (f0_s0_81_11 p1)), .val (.ref y_GREATER_OR_EQUAL), .val (.int (f0_v94_12 w_CS y_GREATER_OR_EQUAL k_GREATER_OR_EQUAL v_GREATER_OR_EQUAL z_v_GREATER_OR_EQUAL c_v_GREATER_OR_EQUAL)), .unset]) rfl ?_
              show Steps p.tables e below (T44.setTop (mkF m 96 #[.val (.int p1), .val (.int (f0_v6 p1)), .val (.ref w_GREATER_OR_EQUAL), .val (.int (f0_s0_81_11 p1)), .val (.ref y_GREATER_OR_EQUAL), .val (.int (f0_v94_12 w_CS y_GREATER_OR_EQUAL k_GREATER_OR_EQUAL v_GREATER_OR_EQUAL z_v_GREATER_OR_EQUAL c_v_GREATER_OR_EQUAL)), .unset] [])) _
              refine XS.iload X44.here hx rfl (hb hby at_96) rfl ?_
              show Steps p.tables e below (T44.setTop (mkF m 98 #[.val (.int p1), .val (.int (f0_v6 p1)), .val (.ref w_GREATER_OR_EQUAL), .val (.int (f0_s0_81_11 p1)), .val (.ref y_GREATER_OR_EQUAL), .val (.int (f0_v94_12 w_CS y_GREATER_OR_EQUAL k_GREATER_OR_EQUAL v_GREATER_OR_EQUAL z_v_GREATER_OR_EQUAL c_v_GREATER_OR_EQUAL)), .unset] [(.int (f0_v94_12 w_CS y_GREATER_OR_EQUAL k_GREATER_OR_EQUAL v_GREATER_OR_EQUAL z_v_GREATER_OR_EQUAL c_v_GREATER_OR_EQUAL))])) _
              refine XS.bipush X44.here hx rfl (hb hby at_98) ?_
              exact k
            have pre86 : ∀ t, Steps p.tables e below (T44.setTop (mkF m 115 #[.val (.int p1), .val (.int (f0_v6 p1)), .val (.ref w_GREATER_OR_EQUAL), .val (.int (f0_s0_81_11 p1)), .val (.ref y_GREATER_OR_EQUAL), .val (.int (f0_v94_12 w_CS y_GREATER_OR_EQUAL k_GREATER_OR_EQUAL v_GREATER_OR_EQUAL z_v_GREATER_OR_EQUAL c_v_GREATER_OR_EQUAL)), .unset] [(.int (f0_s0_115_13 w_CS y_GREATER_OR_EQUAL k_GREATER_OR_EQUAL v_GREATER_OR_EQUAL z_v_GREATER_OR_EQUAL c_v_GREATER_OR_EQUAL))])) t → Steps p.tables e below (s₁.setTop (entryFrame m #[(.int p1)] maxLocals)) t := by
              intro t k
              by_cases hc100 : (f0_v94_12 w_CS y_GREATER_OR_EQUAL k_GREATER_OR_EQUAL v_GREATER_OR_EQUAL z_v_GREATER_OR_EQUAL c_v_GREATER_OR_EQUAL) = (60 : Int32)
              · have eq87 := (show (f0_s0_115_13 w_CS y_GREATER_OR_EQUAL k_GREATER_OR_EQUAL v_GREATER_OR_EQUAL z_v_GREATER_OR_EQUAL c_v_GREATER_OR_EQUAL) = (1 : Int32) from by unfold f0_s0_115_13; simp only [if_pos hc100])
                try rw [eq87] at k
                refine pre85 t ?_
                show Steps p.tables e below (T44.setTop (mkF m 100 #[.val (.int p1), .val (.int (f0_v6 p1)), .val (.ref w_GREATER_OR_EQUAL), .val (.int (f0_s0_81_11 p1)), .val (.ref y_GREATER_OR_EQUAL), .val (.int (f0_v94_12 w_CS y_GREATER_OR_EQUAL k_GREATER_OR_EQUAL v_GREATER_OR_EQUAL z_v_GREATER_OR_EQUAL c_v_GREATER_OR_EQUAL)), .unset] [(.int (60 : Int32)), (.int (f0_v94_12 w_CS y_GREATER_OR_EQUAL k_GREATER_OR_EQUAL v_GREATER_OR_EQUAL z_v_GREATER_OR_EQUAL c_v_GREATER_OR_EQUAL))])) _
                refine XS.icmpYes X44.here hx rfl (pc0 := 100) (pc' := 110) rfl (hb hby at_100) rfl (teq hc100).1 (by decide) (by decide) ?_
                show Steps p.tables e below (T44.setTop (mkF m 110 #[.val (.int p1), .val (.int (f0_v6 p1)), .val (.ref w_GREATER_OR_EQUAL), .val (.int (f0_s0_81_11 p1)), .val (.ref y_GREATER_OR_EQUAL), .val (.int (f0_v94_12 w_CS y_GREATER_OR_EQUAL k_GREATER_OR_EQUAL v_GREATER_OR_EQUAL z_v_GREATER_OR_EQUAL c_v_GREATER_OR_EQUAL)), .unset] [])) _
                refine XS.iconst X44.here hx rfl (hb hby at_110) ?_
                show Steps p.tables e below (T44.setTop (mkF m 111 #[.val (.int p1), .val (.int (f0_v6 p1)), .val (.ref w_GREATER_OR_EQUAL), .val (.int (f0_s0_81_11 p1)), .val (.ref y_GREATER_OR_EQUAL), .val (.int (f0_v94_12 w_CS y_GREATER_OR_EQUAL k_GREATER_OR_EQUAL v_GREATER_OR_EQUAL z_v_GREATER_OR_EQUAL c_v_GREATER_OR_EQUAL)), .unset] [(.int (1 : Int32))])) _
                refine XS.goto X44.here hx rfl (pc0 := 111) (pc' := 115) rfl (hb hby at_111) (by decide) (by decide) ?_
                exact k
              · have pre88 : ∀ t, Steps p.tables e below (T44.setTop (mkF m 107 #[.val (.int p1), .val (.int (f0_v6 p1)), .val (.ref w_GREATER_OR_EQUAL), .val (.int (f0_s0_81_11 p1)), .val (.ref y_GREATER_OR_EQUAL), .val (.int (f0_v94_12 w_CS y_GREATER_OR_EQUAL k_GREATER_OR_EQUAL v_GREATER_OR_EQUAL z_v_GREATER_OR_EQUAL c_v_GREATER_OR_EQUAL)), .unset] [(.int (62 : Int32)), (.int (f0_v94_12 w_CS y_GREATER_OR_EQUAL k_GREATER_OR_EQUAL v_GREATER_OR_EQUAL z_v_GREATER_OR_EQUAL c_v_GREATER_OR_EQUAL))])) t → Steps p.tables e below (s₁.setTop (entryFrame m #[(.int p1)] maxLocals)) t := by
                  intro t k
                  refine pre85 t ?_
                  show Steps p.tables e below (T44.setTop (mkF m 100 #[.val (.int p1), .val (.int (f0_v6 p1)), .val (.ref w_GREATER_OR_EQUAL), .val (.int (f0_s0_81_11 p1)), .val (.ref y_GREATER_OR_EQUAL), .val (.int (f0_v94_12 w_CS y_GREATER_OR_EQUAL k_GREATER_OR_EQUAL v_GREATER_OR_EQUAL z_v_GREATER_OR_EQUAL c_v_GREATER_OR_EQUAL)), .unset] [(.int (60 : Int32)), (.int (f0_v94_12 w_CS y_GREATER_OR_EQUAL k_GREATER_OR_EQUAL v_GREATER_OR_EQUAL z_v_GREATER_OR_EQUAL c_v_GREATER_OR_EQUAL))])) _
                  refine XS.icmpNo X44.here hx rfl (hb hby at_100) rfl (feq hc100).1 ?_
                  show Steps p.tables e below (T44.setTop (mkF m 103 #[.val (.int p1), .val (.int (f0_v6 p1)), .val (.ref w_GREATER_OR_EQUAL), .val (.int (f0_s0_81_11 p1)), .val (.ref y_GREATER_OR_EQUAL), .val (.int (f0_v94_12 w_CS y_GREATER_OR_EQUAL k_GREATER_OR_EQUAL v_GREATER_OR_EQUAL z_v_GREATER_OR_EQUAL c_v_GREATER_OR_EQUAL)), .unset] [])) _
                  refine XS.iload X44.here hx rfl (hb hby at_103) rfl ?_
                  show Steps p.tables e below (T44.setTop (mkF m 105 #[.val (.int p1), .val (.int (f0_v6 p1)), .val (.ref w_GREATER_OR_EQUAL), .val (.int (f0_s0_81_11 p1)), .val (.ref y_GREATER_OR_EQUAL), .val (.int (f0_v94_12 w_CS y_GREATER_OR_EQUAL k_GREATER_OR_EQUAL v_GREATER_OR_EQUAL z_v_GREATER_OR_EQUAL c_v_GREATER_OR_EQUAL)), .unset] [(.int (f0_v94_12 w_CS y_GREATER_OR_EQUAL k_GREATER_OR_EQUAL v_GREATER_OR_EQUAL z_v_GREATER_OR_EQUAL c_v_GREATER_OR_EQUAL))])) _
                  refine XS.bipush X44.here hx rfl (hb hby at_105) ?_
                  exact k
                by_cases hc107 : (f0_v94_12 w_CS y_GREATER_OR_EQUAL k_GREATER_OR_EQUAL v_GREATER_OR_EQUAL z_v_GREATER_OR_EQUAL c_v_GREATER_OR_EQUAL) = (62 : Int32)
                · have eq89 := (show (f0_s0_115_13 w_CS y_GREATER_OR_EQUAL k_GREATER_OR_EQUAL v_GREATER_OR_EQUAL z_v_GREATER_OR_EQUAL c_v_GREATER_OR_EQUAL) = (1 : Int32) from by unfold f0_s0_115_13; simp only [if_neg hc100, if_pos hc107])
                  try rw [eq89] at k
                  refine pre88 t ?_
                  show Steps p.tables e below (T44.setTop (mkF m 107 #[.val (.int p1), .val (.int (f0_v6 p1)), .val (.ref w_GREATER_OR_EQUAL), .val (.int (f0_s0_81_11 p1)), .val (.ref y_GREATER_OR_EQUAL), .val (.int (f0_v94_12 w_CS y_GREATER_OR_EQUAL k_GREATER_OR_EQUAL v_GREATER_OR_EQUAL z_v_GREATER_OR_EQUAL c_v_GREATER_OR_EQUAL)), .unset] [(.int (62 : Int32)), (.int (f0_v94_12 w_CS y_GREATER_OR_EQUAL k_GREATER_OR_EQUAL v_GREATER_OR_EQUAL z_v_GREATER_OR_EQUAL c_v_GREATER_OR_EQUAL))])) _
                  refine XS.icmpNo X44.here hx rfl (hb hby at_107) rfl (teq hc107).2 ?_
                  show Steps p.tables e below (T44.setTop (mkF m 110 #[.val (.int p1), .val (.int (f0_v6 p1)), .val (.ref w_GREATER_OR_EQUAL), .val (.int (f0_s0_81_11 p1)), .val (.ref y_GREATER_OR_EQUAL), .val (.int (f0_v94_12 w_CS y_GREATER_OR_EQUAL k_GREATER_OR_EQUAL v_GREATER_OR_EQUAL z_v_GREATER_OR_EQUAL c_v_GREATER_OR_EQUAL)), .unset] [])) _
                  refine XS.iconst X44.here hx rfl (hb hby at_110) ?_
                  show Steps p.tables e below (T44.setTop (mkF m 111 #[.val (.int p1), .val (.int (f0_v6 p1)), .val (.ref w_GREATER_OR_EQUAL), .val (.int (f0_s0_81_11 p1)), .val (.ref y_GREATER_OR_EQUAL), .val (.int (f0_v94_12 w_CS y_GREATER_OR_EQUAL k_GREATER_OR_EQUAL v_GREATER_OR_EQUAL z_v_GREATER_OR_EQUAL c_v_GREATER_OR_EQUAL)), .unset] [(.int (1 : Int32))])) _
                  refine XS.goto X44.here hx rfl (pc0 := 111) (pc' := 115) rfl (hb hby at_111) (by decide) (by decide) ?_
                  exact k
                · have eq90 := (show (f0_s0_115_13 w_CS y_GREATER_OR_EQUAL k_GREATER_OR_EQUAL v_GREATER_OR_EQUAL z_v_GREATER_OR_EQUAL c_v_GREATER_OR_EQUAL) = (0 : Int32) from by unfold f0_s0_115_13; simp only [if_neg hc100, if_neg hc107])
                  try rw [eq90] at k
                  refine pre88 t ?_
                  show Steps p.tables e below (T44.setTop (mkF m 107 #[.val (.int p1), .val (.int (f0_v6 p1)), .val (.ref w_GREATER_OR_EQUAL), .val (.int (f0_s0_81_11 p1)), .val (.ref y_GREATER_OR_EQUAL), .val (.int (f0_v94_12 w_CS y_GREATER_OR_EQUAL k_GREATER_OR_EQUAL v_GREATER_OR_EQUAL z_v_GREATER_OR_EQUAL c_v_GREATER_OR_EQUAL)), .unset] [(.int (62 : Int32)), (.int (f0_v94_12 w_CS y_GREATER_OR_EQUAL k_GREATER_OR_EQUAL v_GREATER_OR_EQUAL z_v_GREATER_OR_EQUAL c_v_GREATER_OR_EQUAL))])) _
                  refine XS.icmpYes X44.here hx rfl (pc0 := 107) (pc' := 114) rfl (hb hby at_107) rfl (feq hc107).2 (by decide) (by decide) ?_
                  show Steps p.tables e below (T44.setTop (mkF m 114 #[.val (.int p1), .val (.int (f0_v6 p1)), .val (.ref w_GREATER_OR_EQUAL), .val (.int (f0_s0_81_11 p1)), .val (.ref y_GREATER_OR_EQUAL), .val (.int (f0_v94_12 w_CS y_GREATER_OR_EQUAL k_GREATER_OR_EQUAL v_GREATER_OR_EQUAL z_v_GREATER_OR_EQUAL c_v_GREATER_OR_EQUAL)), .unset] [])) _
                  refine XS.iconst X44.here hx rfl (hb hby at_114) ?_
                  exact k
            obtain ⟨cq45, kq45, q45a, q45b, q45c⟩ := isOf hZ e44 E_w_GREATER_OR_EQUAL
            obtain ⟨_, _, ⟨T45, L45, k45, n45⟩, -, X45, ⟨Lc45, hQ45, l45, y45, z45⟩, st45⟩ := X44.virtualBack hx (y := (⟨"com/example/inline_monitor/inlinemonitor/model/Guard$Relation", "isOrdering", "()Z"⟩ : MethodName)) (z := (⟨"com/example/inline_monitor/inlinemonitor/model/Guard$Relation", "isOrdering", "()Z"⟩ : MethodName)) hown (mvT hZ (hw _ (List.mem_of_getElem? (i := 39) rfl))) (mvT hZ (hw _ (List.mem_of_getElem? (i := 40) rfl))) (notFace_of_selects (args := #[]) (mvT hZ (hw _ (List.mem_of_getElem? (i := 42) rfl)))) (mvT hZ (hw _ (List.mem_of_getElem? (i := 42) rfl))) (mvT hZ (hw _ (List.mem_of_getElem? (i := 41) rfl))) (by decide) (backOf (W := 0) (rm7 l Z a0 hw [] w_GREATER_OR_EQUAL w_EQUAL w_NOT_EQUAL h0 n0 Z0 S_EQUAL S_NOT_EQUAL) hZ (hw _ (List.mem_of_getElem? (i := 43) rfl)) (hw _ (List.mem_of_getElem? (i := 2) rfl)) (by decide) (by decide)) q45a q45c (g := (mkF m 118 #[.val (.int p1), .val (.int (f0_v6 p1)), .val (.ref w_GREATER_OR_EQUAL), .val (.int (f0_s0_81_11 p1)), .val (.ref y_GREATER_OR_EQUAL), .val (.int (f0_v94_12 w_CS y_GREATER_OR_EQUAL k_GREATER_OR_EQUAL v_GREATER_OR_EQUAL z_v_GREATER_OR_EQUAL c_v_GREATER_OR_EQUAL)), .val (.int (f0_v115_14 w_CS y_GREATER_OR_EQUAL k_GREATER_OR_EQUAL v_GREATER_OR_EQUAL z_v_GREATER_OR_EQUAL c_v_GREATER_OR_EQUAL))] [(.ref w_GREATER_OR_EQUAL)])) rfl (by rw [hml]; rfl) (Steps.refl _) (argsL := []) (rest := []) (lenOf pd_2 rfl) rfl (by show 2 * 0 + _ ≤ _; exact Nat.le_of_eq rfl) (hb hby at_118) (fun _ _ => ⟨rfl, e44, (by decide : 0 + 0 ≤ _), (by decide : 0 + 0 ≤ _)⟩)
            dsimp only [Pt.U, Pt.locs, Pt.cells, Pt.slots] at X45 l45 y45 z45 st45 hQ45
            subst l45 y45 z45
            obtain ⟨rfl, N45q, e45⟩ := hQ45
            have N45 := Fr.app N44 N45q
            have pre91 : ∀ t, Steps p.tables e below (T45.setTop (mkF m 122 #[.val (.int p1), .val (.int (f0_v6 p1)), .val (.ref w_GREATER_OR_EQUAL), .val (.int (f0_s0_81_11 p1)), .val (.ref y_GREATER_OR_EQUAL), .val (.int (f0_v94_12 w_CS y_GREATER_OR_EQUAL k_GREATER_OR_EQUAL v_GREATER_OR_EQUAL z_v_GREATER_OR_EQUAL c_v_GREATER_OR_EQUAL)), .val (.int (f0_v115_14 w_CS y_GREATER_OR_EQUAL k_GREATER_OR_EQUAL v_GREATER_OR_EQUAL z_v_GREATER_OR_EQUAL c_v_GREATER_OR_EQUAL))] [(.int (f0_s0_81_11 p1)), (.int (f7 w_GREATER_OR_EQUAL w_EQUAL w_NOT_EQUAL))])) t → Steps p.tables e below (s₁.setTop (entryFrame m #[(.int p1)] maxLocals)) t := by
              intro t k
              refine pre86 t ?_
              show Steps p.tables e below (T44.setTop (mkF m 115 #[.val (.int p1), .val (.int (f0_v6 p1)), .val (.ref w_GREATER_OR_EQUAL), .val (.int (f0_s0_81_11 p1)), .val (.ref y_GREATER_OR_EQUAL), .val (.int (f0_v94_12 w_CS y_GREATER_OR_EQUAL k_GREATER_OR_EQUAL v_GREATER_OR_EQUAL z_v_GREATER_OR_EQUAL c_v_GREATER_OR_EQUAL)), .unset] [(.int (f0_s0_115_13 w_CS y_GREATER_OR_EQUAL k_GREATER_OR_EQUAL v_GREATER_OR_EQUAL z_v_GREATER_OR_EQUAL c_v_GREATER_OR_EQUAL))])) _
              refine XS.istore X44.here hx rfl (hb hby at_115) rfl (l' := #[.val (.int p1), .val (.int (f0_v6 p1)), .val (.ref w_GREATER_OR_EQUAL), .val (.int (f0_s0_81_11 p1)), .val (.ref y_GREATER_OR_EQUAL), .val (.int (f0_v94_12 w_CS y_GREATER_OR_EQUAL k_GREATER_OR_EQUAL v_GREATER_OR_EQUAL z_v_GREATER_OR_EQUAL c_v_GREATER_OR_EQUAL)), .val (.int (f0_v115_14 w_CS y_GREATER_OR_EQUAL k_GREATER_OR_EQUAL v_GREATER_OR_EQUAL z_v_GREATER_OR_EQUAL c_v_GREATER_OR_EQUAL))]) rfl ?_
              show Steps p.tables e below (T44.setTop (mkF m 117 #[.val (.int p1), .val (.int (f0_v6 p1)), .val (.ref w_GREATER_OR_EQUAL), .val (.int (f0_s0_81_11 p1)), .val (.ref y_GREATER_OR_EQUAL), .val (.int (f0_v94_12 w_CS y_GREATER_OR_EQUAL k_GREATER_OR_EQUAL v_GREATER_OR_EQUAL z_v_GREATER_OR_EQUAL c_v_GREATER_OR_EQUAL)), .val (.int (f0_v115_14 w_CS y_GREATER_OR_EQUAL k_GREATER_OR_EQUAL v_GREATER_OR_EQUAL z_v_GREATER_OR_EQUAL c_v_GREATER_OR_EQUAL))] [])) _
              refine XS.aloadN X44.here hx rfl (hb hby at_117) rfl rfl ?_
              show Steps p.tables e below (T44.setTop (mkF m 118 #[.val (.int p1), .val (.int (f0_v6 p1)), .val (.ref w_GREATER_OR_EQUAL), .val (.int (f0_s0_81_11 p1)), .val (.ref y_GREATER_OR_EQUAL), .val (.int (f0_v94_12 w_CS y_GREATER_OR_EQUAL k_GREATER_OR_EQUAL v_GREATER_OR_EQUAL z_v_GREATER_OR_EQUAL c_v_GREATER_OR_EQUAL)), .val (.int (f0_v115_14 w_CS y_GREATER_OR_EQUAL k_GREATER_OR_EQUAL v_GREATER_OR_EQUAL z_v_GREATER_OR_EQUAL c_v_GREATER_OR_EQUAL))] [(.ref w_GREATER_OR_EQUAL)])) _
              refine st45.trans ?_
              show Steps p.tables e below (T45.setTop (mkF m 121 #[.val (.int p1), .val (.int (f0_v6 p1)), .val (.ref w_GREATER_OR_EQUAL), .val (.int (f0_s0_81_11 p1)), .val (.ref y_GREATER_OR_EQUAL), .val (.int (f0_v94_12 w_CS y_GREATER_OR_EQUAL k_GREATER_OR_EQUAL v_GREATER_OR_EQUAL z_v_GREATER_OR_EQUAL c_v_GREATER_OR_EQUAL)), .val (.int (f0_v115_14 w_CS y_GREATER_OR_EQUAL k_GREATER_OR_EQUAL v_GREATER_OR_EQUAL z_v_GREATER_OR_EQUAL c_v_GREATER_OR_EQUAL))] [(.int (f7 w_GREATER_OR_EQUAL w_EQUAL w_NOT_EQUAL))])) _
              refine XS.iloadN X45.here hx rfl (hb hby at_121) rfl ?_
              exact k
            by_cases hc122 : (f7 w_GREATER_OR_EQUAL w_EQUAL w_NOT_EQUAL) = (f0_s0_81_11 p1)
            · have pre92 : ∀ t, Steps p.tables e below (T45.setTop (mkF m 128 #[.val (.int p1), .val (.int (f0_v6 p1)), .val (.ref w_GREATER_OR_EQUAL), .val (.int (f0_s0_81_11 p1)), .val (.ref y_GREATER_OR_EQUAL), .val (.int (f0_v94_12 w_CS y_GREATER_OR_EQUAL k_GREATER_OR_EQUAL v_GREATER_OR_EQUAL z_v_GREATER_OR_EQUAL c_v_GREATER_OR_EQUAL)), .val (.int (f0_v115_14 w_CS y_GREATER_OR_EQUAL k_GREATER_OR_EQUAL v_GREATER_OR_EQUAL z_v_GREATER_OR_EQUAL c_v_GREATER_OR_EQUAL))] [(.int (f0_v115_14 w_CS y_GREATER_OR_EQUAL k_GREATER_OR_EQUAL v_GREATER_OR_EQUAL z_v_GREATER_OR_EQUAL c_v_GREATER_OR_EQUAL)), (.int (f0_s0_81_11 p1))])) t → Steps p.tables e below (s₁.setTop (entryFrame m #[(.int p1)] maxLocals)) t := by
                intro t k
                refine pre91 t ?_
                show Steps p.tables e below (T45.setTop (mkF m 122 #[.val (.int p1), .val (.int (f0_v6 p1)), .val (.ref w_GREATER_OR_EQUAL), .val (.int (f0_s0_81_11 p1)), .val (.ref y_GREATER_OR_EQUAL), .val (.int (f0_v94_12 w_CS y_GREATER_OR_EQUAL k_GREATER_OR_EQUAL v_GREATER_OR_EQUAL z_v_GREATER_OR_EQUAL c_v_GREATER_OR_EQUAL)), .val (.int (f0_v115_14 w_CS y_GREATER_OR_EQUAL k_GREATER_OR_EQUAL v_GREATER_OR_EQUAL z_v_GREATER_OR_EQUAL c_v_GREATER_OR_EQUAL))] [(.int (f0_s0_81_11 p1)), (.int (f7 w_GREATER_OR_EQUAL w_EQUAL w_NOT_EQUAL))])) _
                refine XS.icmpNo X45.here hx rfl (hb hby at_122) rfl (teq hc122).2 ?_
                show Steps p.tables e below (T45.setTop (mkF m 125 #[.val (.int p1), .val (.int (f0_v6 p1)), .val (.ref w_GREATER_OR_EQUAL), .val (.int (f0_s0_81_11 p1)), .val (.ref y_GREATER_OR_EQUAL), .val (.int (f0_v94_12 w_CS y_GREATER_OR_EQUAL k_GREATER_OR_EQUAL v_GREATER_OR_EQUAL z_v_GREATER_OR_EQUAL c_v_GREATER_OR_EQUAL)), .val (.int (f0_v115_14 w_CS y_GREATER_OR_EQUAL k_GREATER_OR_EQUAL v_GREATER_OR_EQUAL z_v_GREATER_OR_EQUAL c_v_GREATER_OR_EQUAL))] [])) _
                refine XS.iloadN X45.here hx rfl (hb hby at_125) rfl ?_
                show Steps p.tables e below (T45.setTop (mkF m 126 #[.val (.int p1), .val (.int (f0_v6 p1)), .val (.ref w_GREATER_OR_EQUAL), .val (.int (f0_s0_81_11 p1)), .val (.ref y_GREATER_OR_EQUAL), .val (.int (f0_v94_12 w_CS y_GREATER_OR_EQUAL k_GREATER_OR_EQUAL v_GREATER_OR_EQUAL z_v_GREATER_OR_EQUAL c_v_GREATER_OR_EQUAL)), .val (.int (f0_v115_14 w_CS y_GREATER_OR_EQUAL k_GREATER_OR_EQUAL v_GREATER_OR_EQUAL z_v_GREATER_OR_EQUAL c_v_GREATER_OR_EQUAL))] [(.int (f0_s0_81_11 p1))])) _
                refine XS.iload X45.here hx rfl (hb hby at_126) rfl ?_
                exact k
              by_cases hc128 : (f0_s0_81_11 p1) = (f0_v115_14 w_CS y_GREATER_OR_EQUAL k_GREATER_OR_EQUAL v_GREATER_OR_EQUAL z_v_GREATER_OR_EQUAL c_v_GREATER_OR_EQUAL)
              · have eq93 : (f0 p1 w_EQUAL w_NOT_EQUAL w_LESS w_LESS_OR_EQUAL w_GREATER w_GREATER_OR_EQUAL w_CS y_EQUAL k_EQUAL v_EQUAL z_v_EQUAL c_v_EQUAL y_NOT_EQUAL k_NOT_EQUAL v_NOT_EQUAL z_v_NOT_EQUAL c_v_NOT_EQUAL y_LESS k_LESS v_LESS z_v_LESS c_v_LESS y_LESS_OR_EQUAL k_LESS_OR_EQUAL v_LESS_OR_EQUAL z_v_LESS_OR_EQUAL c_v_LESS_OR_EQUAL y_GREATER k_GREATER v_GREATER z_v_GREATER c_v_GREATER y_GREATER_OR_EQUAL k_GREATER_OR_EQUAL v_GREATER_OR_EQUAL z_v_GREATER_OR_EQUAL c_v_GREATER_OR_EQUAL) = (1 : Int32) := by unfold f0; simp only [if_neg hc9, if_neg hc21, if_neg hc33, if_neg hc45, if_neg hc57, if_pos hc122, if_pos hc128]
                obtain ⟨fs, hr, hrun, hended, hW, hsame⟩ := X45.leave (v := some (.int (1 : Int32))) (fun h => by rw [Bd.returns] at h; cases h)
                refine ⟨_, _, pre92 _ ?_, hrun, hended, _, _, rfl, ?_, ⟨_, rfl⟩, hW, hsame.mono (by decide) (by decide)⟩
                · show Steps p.tables e below (T45.setTop (mkF m 128 #[.val (.int p1), .val (.int (f0_v6 p1)), .val (.ref w_GREATER_OR_EQUAL), .val (.int (f0_s0_81_11 p1)), .val (.ref y_GREATER_OR_EQUAL), .val (.int (f0_v94_12 w_CS y_GREATER_OR_EQUAL k_GREATER_OR_EQUAL v_GREATER_OR_EQUAL z_v_GREATER_OR_EQUAL c_v_GREATER_OR_EQUAL)), .val (.int (f0_v115_14 w_CS y_GREATER_OR_EQUAL k_GREATER_OR_EQUAL v_GREATER_OR_EQUAL z_v_GREATER_OR_EQUAL c_v_GREATER_OR_EQUAL))] [(.int (f0_v115_14 w_CS y_GREATER_OR_EQUAL k_GREATER_OR_EQUAL v_GREATER_OR_EQUAL z_v_GREATER_OR_EQUAL c_v_GREATER_OR_EQUAL)), (.int (f0_s0_81_11 p1))])) _
                  refine XS.icmpNo X45.here hx rfl (hb hby at_128) rfl (teq hc128).2 ?_
                  show Steps p.tables e below (T45.setTop (mkF m 131 #[.val (.int p1), .val (.int (f0_v6 p1)), .val (.ref w_GREATER_OR_EQUAL), .val (.int (f0_s0_81_11 p1)), .val (.ref y_GREATER_OR_EQUAL), .val (.int (f0_v94_12 w_CS y_GREATER_OR_EQUAL k_GREATER_OR_EQUAL v_GREATER_OR_EQUAL z_v_GREATER_OR_EQUAL c_v_GREATER_OR_EQUAL)), .val (.int (f0_v115_14 w_CS y_GREATER_OR_EQUAL k_GREATER_OR_EQUAL v_GREATER_OR_EQUAL z_v_GREATER_OR_EQUAL c_v_GREATER_OR_EQUAL))] [])) _
                  refine XS.iconst X45.here hx rfl (hb hby at_131) ?_
                  show Steps p.tables e below (T45.setTop (mkF m 132 #[.val (.int p1), .val (.int (f0_v6 p1)), .val (.ref w_GREATER_OR_EQUAL), .val (.int (f0_s0_81_11 p1)), .val (.ref y_GREATER_OR_EQUAL), .val (.int (f0_v94_12 w_CS y_GREATER_OR_EQUAL k_GREATER_OR_EQUAL v_GREATER_OR_EQUAL z_v_GREATER_OR_EQUAL c_v_GREATER_OR_EQUAL)), .val (.int (f0_v115_14 w_CS y_GREATER_OR_EQUAL k_GREATER_OR_EQUAL v_GREATER_OR_EQUAL z_v_GREATER_OR_EQUAL c_v_GREATER_OR_EQUAL))] [(.int (1 : Int32))])) _
                  refine XS.goto X45.here hx rfl (pc0 := 132) (pc' := 136) rfl (hb hby at_132) (by decide) (by decide) ?_
                  show Steps p.tables e below (T45.setTop (mkF m 136 #[.val (.int p1), .val (.int (f0_v6 p1)), .val (.ref w_GREATER_OR_EQUAL), .val (.int (f0_s0_81_11 p1)), .val (.ref y_GREATER_OR_EQUAL), .val (.int (f0_v94_12 w_CS y_GREATER_OR_EQUAL k_GREATER_OR_EQUAL v_GREATER_OR_EQUAL z_v_GREATER_OR_EQUAL c_v_GREATER_OR_EQUAL)), .val (.int (f0_v115_14 w_CS y_GREATER_OR_EQUAL k_GREATER_OR_EQUAL v_GREATER_OR_EQUAL z_v_GREATER_OR_EQUAL c_v_GREATER_OR_EQUAL))] [(.int (1 : Int32))])) _
                  exact retN X45 hx (t := .boolean) Bd.returns (by simp) (hb hby at_136) hr
                · show Q0 Z p1 w_EQUAL w_NOT_EQUAL w_LESS w_LESS_OR_EQUAL w_GREATER w_GREATER_OR_EQUAL w_CS w_SIO y_EQUAL k_EQUAL v_EQUAL z_v_EQUAL c_v_EQUAL y_NOT_EQUAL k_NOT_EQUAL v_NOT_EQUAL z_v_NOT_EQUAL c_v_NOT_EQUAL y_LESS k_LESS v_LESS z_v_LESS c_v_LESS y_LESS_OR_EQUAL k_LESS_OR_EQUAL v_LESS_OR_EQUAL z_v_LESS_OR_EQUAL c_v_LESS_OR_EQUAL y_GREATER k_GREATER v_GREATER z_v_GREATER c_v_GREATER y_GREATER_OR_EQUAL k_GREATER_OR_EQUAL v_GREATER_OR_EQUAL z_v_GREATER_OR_EQUAL c_v_GREATER_OR_EQUAL h0 n0 _ T45.heap _
                  rw [e45]
                  exact ⟨by rw [eq93], N45, trivial⟩
              · have eq94 : (f0 p1 w_EQUAL w_NOT_EQUAL w_LESS w_LESS_OR_EQUAL w_GREATER w_GREATER_OR_EQUAL w_CS y_EQUAL k_EQUAL v_EQUAL z_v_EQUAL c_v_EQUAL y_NOT_EQUAL k_NOT_EQUAL v_NOT_EQUAL z_v_NOT_EQUAL c_v_NOT_EQUAL y_LESS k_LESS v_LESS z_v_LESS c_v_LESS y_LESS_OR_EQUAL k_LESS_OR_EQUAL v_LESS_OR_EQUAL z_v_LESS_OR_EQUAL c_v_LESS_OR_EQUAL y_GREATER k_GREATER v_GREATER z_v_GREATER c_v_GREATER y_GREATER_OR_EQUAL k_GREATER_OR_EQUAL v_GREATER_OR_EQUAL z_v_GREATER_OR_EQUAL c_v_GREATER_OR_EQUAL) = (0 : Int32) := by unfold f0; simp only [if_neg hc9, if_neg hc21, if_neg hc33, if_neg hc45, if_neg hc57, if_pos hc122, if_neg hc128]
                obtain ⟨fs, hr, hrun, hended, hW, hsame⟩ := X45.leave (v := some (.int (0 : Int32))) (fun h => by rw [Bd.returns] at h; cases h)
                refine ⟨_, _, pre92 _ ?_, hrun, hended, _, _, rfl, ?_, ⟨_, rfl⟩, hW, hsame.mono (by decide) (by decide)⟩
                · show Steps p.tables e below (T45.setTop (mkF m 128 #[.val (.int p1), .val (.int (f0_v6 p1)), .val (.ref w_GREATER_OR_EQUAL), .val (.int (f0_s0_81_11 p1)), .val (.ref y_GREATER_OR_EQUAL), .val (.int (f0_v94_12 w_CS y_GREATER_OR_EQUAL k_GREATER_OR_EQUAL v_GREATER_OR_EQUAL z_v_GREATER_OR_EQUAL c_v_GREATER_OR_EQUAL)), .val (.int (f0_v115_14 w_CS y_GREATER_OR_EQUAL k_GREATER_OR_EQUAL v_GREATER_OR_EQUAL z_v_GREATER_OR_EQUAL c_v_GREATER_OR_EQUAL))] [(.int (f0_v115_14 w_CS y_GREATER_OR_EQUAL k_GREATER_OR_EQUAL v_GREATER_OR_EQUAL z_v_GREATER_OR_EQUAL c_v_GREATER_OR_EQUAL)), (.int (f0_s0_81_11 p1))])) _
                  refine XS.icmpYes X45.here hx rfl (pc0 := 128) (pc' := 135) rfl (hb hby at_128) rfl (feq hc128).2 (by decide) (by decide) ?_
                  show Steps p.tables e below (T45.setTop (mkF m 135 #[.val (.int p1), .val (.int (f0_v6 p1)), .val (.ref w_GREATER_OR_EQUAL), .val (.int (f0_s0_81_11 p1)), .val (.ref y_GREATER_OR_EQUAL), .val (.int (f0_v94_12 w_CS y_GREATER_OR_EQUAL k_GREATER_OR_EQUAL v_GREATER_OR_EQUAL z_v_GREATER_OR_EQUAL c_v_GREATER_OR_EQUAL)), .val (.int (f0_v115_14 w_CS y_GREATER_OR_EQUAL k_GREATER_OR_EQUAL v_GREATER_OR_EQUAL z_v_GREATER_OR_EQUAL c_v_GREATER_OR_EQUAL))] [])) _
                  refine XS.iconst X45.here hx rfl (hb hby at_135) ?_
                  show Steps p.tables e below (T45.setTop (mkF m 136 #[.val (.int p1), .val (.int (f0_v6 p1)), .val (.ref w_GREATER_OR_EQUAL), .val (.int (f0_s0_81_11 p1)), .val (.ref y_GREATER_OR_EQUAL), .val (.int (f0_v94_12 w_CS y_GREATER_OR_EQUAL k_GREATER_OR_EQUAL v_GREATER_OR_EQUAL z_v_GREATER_OR_EQUAL c_v_GREATER_OR_EQUAL)), .val (.int (f0_v115_14 w_CS y_GREATER_OR_EQUAL k_GREATER_OR_EQUAL v_GREATER_OR_EQUAL z_v_GREATER_OR_EQUAL c_v_GREATER_OR_EQUAL))] [(.int (0 : Int32))])) _
                  exact retN X45 hx (t := .boolean) Bd.returns (by simp) (hb hby at_136) hr
                · show Q0 Z p1 w_EQUAL w_NOT_EQUAL w_LESS w_LESS_OR_EQUAL w_GREATER w_GREATER_OR_EQUAL w_CS w_SIO y_EQUAL k_EQUAL v_EQUAL z_v_EQUAL c_v_EQUAL y_NOT_EQUAL k_NOT_EQUAL v_NOT_EQUAL z_v_NOT_EQUAL c_v_NOT_EQUAL y_LESS k_LESS v_LESS z_v_LESS c_v_LESS y_LESS_OR_EQUAL k_LESS_OR_EQUAL v_LESS_OR_EQUAL z_v_LESS_OR_EQUAL c_v_LESS_OR_EQUAL y_GREATER k_GREATER v_GREATER z_v_GREATER c_v_GREATER y_GREATER_OR_EQUAL k_GREATER_OR_EQUAL v_GREATER_OR_EQUAL z_v_GREATER_OR_EQUAL c_v_GREATER_OR_EQUAL h0 n0 _ T45.heap _
                  rw [e45]
                  exact ⟨by rw [eq94], N45, trivial⟩
            · have eq95 : (f0 p1 w_EQUAL w_NOT_EQUAL w_LESS w_LESS_OR_EQUAL w_GREATER w_GREATER_OR_EQUAL w_CS y_EQUAL k_EQUAL v_EQUAL z_v_EQUAL c_v_EQUAL y_NOT_EQUAL k_NOT_EQUAL v_NOT_EQUAL z_v_NOT_EQUAL c_v_NOT_EQUAL y_LESS k_LESS v_LESS z_v_LESS c_v_LESS y_LESS_OR_EQUAL k_LESS_OR_EQUAL v_LESS_OR_EQUAL z_v_LESS_OR_EQUAL c_v_LESS_OR_EQUAL y_GREATER k_GREATER v_GREATER z_v_GREATER c_v_GREATER y_GREATER_OR_EQUAL k_GREATER_OR_EQUAL v_GREATER_OR_EQUAL z_v_GREATER_OR_EQUAL c_v_GREATER_OR_EQUAL) = (0 : Int32) := by unfold f0; simp only [if_neg hc9, if_neg hc21, if_neg hc33, if_neg hc45, if_neg hc57, if_neg hc122]
              obtain ⟨fs, hr, hrun, hended, hW, hsame⟩ := X45.leave (v := some (.int (0 : Int32))) (fun h => by rw [Bd.returns] at h; cases h)
              refine ⟨_, _, pre91 _ ?_, hrun, hended, _, _, rfl, ?_, ⟨_, rfl⟩, hW, hsame.mono (by decide) (by decide)⟩
              · show Steps p.tables e below (T45.setTop (mkF m 122 #[.val (.int p1), .val (.int (f0_v6 p1)), .val (.ref w_GREATER_OR_EQUAL), .val (.int (f0_s0_81_11 p1)), .val (.ref y_GREATER_OR_EQUAL), .val (.int (f0_v94_12 w_CS y_GREATER_OR_EQUAL k_GREATER_OR_EQUAL v_GREATER_OR_EQUAL z_v_GREATER_OR_EQUAL c_v_GREATER_OR_EQUAL)), .val (.int (f0_v115_14 w_CS y_GREATER_OR_EQUAL k_GREATER_OR_EQUAL v_GREATER_OR_EQUAL z_v_GREATER_OR_EQUAL c_v_GREATER_OR_EQUAL))] [(.int (f0_s0_81_11 p1)), (.int (f7 w_GREATER_OR_EQUAL w_EQUAL w_NOT_EQUAL))])) _
                refine XS.icmpYes X45.here hx rfl (pc0 := 122) (pc' := 135) rfl (hb hby at_122) rfl (feq hc122).2 (by decide) (by decide) ?_
                show Steps p.tables e below (T45.setTop (mkF m 135 #[.val (.int p1), .val (.int (f0_v6 p1)), .val (.ref w_GREATER_OR_EQUAL), .val (.int (f0_s0_81_11 p1)), .val (.ref y_GREATER_OR_EQUAL), .val (.int (f0_v94_12 w_CS y_GREATER_OR_EQUAL k_GREATER_OR_EQUAL v_GREATER_OR_EQUAL z_v_GREATER_OR_EQUAL c_v_GREATER_OR_EQUAL)), .val (.int (f0_v115_14 w_CS y_GREATER_OR_EQUAL k_GREATER_OR_EQUAL v_GREATER_OR_EQUAL z_v_GREATER_OR_EQUAL c_v_GREATER_OR_EQUAL))] [])) _
                refine XS.iconst X45.here hx rfl (hb hby at_135) ?_
                show Steps p.tables e below (T45.setTop (mkF m 136 #[.val (.int p1), .val (.int (f0_v6 p1)), .val (.ref w_GREATER_OR_EQUAL), .val (.int (f0_s0_81_11 p1)), .val (.ref y_GREATER_OR_EQUAL), .val (.int (f0_v94_12 w_CS y_GREATER_OR_EQUAL k_GREATER_OR_EQUAL v_GREATER_OR_EQUAL z_v_GREATER_OR_EQUAL c_v_GREATER_OR_EQUAL)), .val (.int (f0_v115_14 w_CS y_GREATER_OR_EQUAL k_GREATER_OR_EQUAL v_GREATER_OR_EQUAL z_v_GREATER_OR_EQUAL c_v_GREATER_OR_EQUAL))] [(.int (0 : Int32))])) _
                exact retN X45 hx (t := .boolean) Bd.returns (by simp) (hb hby at_136) hr
              · show Q0 Z p1 w_EQUAL w_NOT_EQUAL w_LESS w_LESS_OR_EQUAL w_GREATER w_GREATER_OR_EQUAL w_CS w_SIO y_EQUAL k_EQUAL v_EQUAL z_v_EQUAL c_v_EQUAL y_NOT_EQUAL k_NOT_EQUAL v_NOT_EQUAL z_v_NOT_EQUAL c_v_NOT_EQUAL y_LESS k_LESS v_LESS z_v_LESS c_v_LESS y_LESS_OR_EQUAL k_LESS_OR_EQUAL v_LESS_OR_EQUAL z_v_LESS_OR_EQUAL c_v_LESS_OR_EQUAL y_GREATER k_GREATER v_GREATER z_v_GREATER c_v_GREATER y_GREATER_OR_EQUAL k_GREATER_OR_EQUAL v_GREATER_OR_EQUAL z_v_GREATER_OR_EQUAL c_v_GREATER_OR_EQUAL h0 n0 _ T45.heap _
                rw [e45]
                exact ⟨by rw [eq95], N45, trivial⟩
theorem own_cat {x : Value} (h : x.isRef = true) : x.category = 1 := by
  cases x <;> simp [Value.isRef, Value.category] at h ⊢
theorem own_rem (x y : Int32) : x - (x / y) * y = x % y := by
  apply Int32.toInt_inj.mp
  have h1 := Int32.le_toInt (x % y)
  have h2 := Int32.toInt_lt (x % y)
  rw [Int32.toInt_sub, Int32.toInt_mul, Int32.toInt_div, Int.bmod_mul_bmod, Int.sub_bmod_bmod, Int.mul_comm (x.toInt.tdiv y.toInt), ← Int.tmod_def, ← Int32.toInt_mod]
  exact Int.bmod_eq_of_le_mul_two (by omega) (by omega)
theorem own_nat (x : Int32) : (x.toBitVec.toNat : Int) = x.toInt % 4294967296 := by
  have h := x.toBitVec.isLt
  show _ = x.toBitVec.toInt % 4294967296
  rw [BitVec.toInt_eq_toNat_cond]; split <;> omega
theorem own_mask (x m : Int32) (k : Nat) (hm : m.toBitVec.toNat = 2 ^ k - 1) : (x &&& m).toBitVec.toNat = x.toBitVec.toNat % 2 ^ k := by
  show (x.toBitVec &&& m.toBitVec).toNat = _
  rw [BitVec.toNat_and, hm, Nat.and_two_pow_sub_one_eq_mod]
theorem own_k6 (p : Int32) : 0 ≤ (f0_v6 p).toInt ∧ (f0_v6 p).toInt < 6 := by
  unfold f0_v6
  rw [own_rem]
  have h := c_mask p 2147483647 31 (by decide) (by decide)
  have h2 := (c_irem (p &&& 2147483647) 6 6 rfl).1 (by rw [h]; omega)
  omega
theorem own_law (p1 : Int32) (w_EQUAL : Addr) (w_NOT_EQUAL : Addr) (w_LESS : Addr) (w_LESS_OR_EQUAL : Addr) (w_GREATER : Addr) (w_GREATER_OR_EQUAL : Addr) (w_CS : Int32) (y_EQUAL : Addr) (k_EQUAL : Int32) (v_EQUAL : Addr) (z_v_EQUAL : Int32) (c_v_EQUAL : Nat → Int32) (y_NOT_EQUAL : Addr) (k_NOT_EQUAL : Int32) (v_NOT_EQUAL : Addr) (z_v_NOT_EQUAL : Int32) (c_v_NOT_EQUAL : Nat → Int32) (y_LESS : Addr) (k_LESS : Int32) (v_LESS : Addr) (z_v_LESS : Int32) (c_v_LESS : Nat → Int32) (y_LESS_OR_EQUAL : Addr) (k_LESS_OR_EQUAL : Int32) (v_LESS_OR_EQUAL : Addr) (z_v_LESS_OR_EQUAL : Int32) (c_v_LESS_OR_EQUAL : Nat → Int32) (y_GREATER : Addr) (k_GREATER : Int32) (v_GREATER : Addr) (z_v_GREATER : Int32) (c_v_GREATER : Nat → Int32) (y_GREATER_OR_EQUAL : Addr) (k_GREATER_OR_EQUAL : Int32) (v_GREATER_OR_EQUAL : Addr) (z_v_GREATER_OR_EQUAL : Int32) (c_v_GREATER_OR_EQUAL : Nat → Int32) (h_EQUAL : c_v_EQUAL 0 = 61) (h_NOT_EQUAL : c_v_NOT_EQUAL 0 = 33) (h_LESS : c_v_LESS 0 = 60) (h_LESS_OR_EQUAL : c_v_LESS_OR_EQUAL 0 = 60) (h_GREATER : c_v_GREATER 0 = 62) (h_GREATER_OR_EQUAL : c_v_GREATER_OR_EQUAL 0 = 62) (ne_NOT_EQUAL_EQUAL : w_NOT_EQUAL ≠ w_EQUAL) (ne_LESS_EQUAL : w_LESS ≠ w_EQUAL) (ne_LESS_NOT_EQUAL : w_LESS ≠ w_NOT_EQUAL) (ne_LESS_OR_EQUAL_EQUAL : w_LESS_OR_EQUAL ≠ w_EQUAL) (ne_LESS_OR_EQUAL_NOT_EQUAL : w_LESS_OR_EQUAL ≠ w_NOT_EQUAL) (ne_GREATER_EQUAL : w_GREATER ≠ w_EQUAL) (ne_GREATER_NOT_EQUAL : w_GREATER ≠ w_NOT_EQUAL) (ne_GREATER_OR_EQUAL_EQUAL : w_GREATER_OR_EQUAL ≠ w_EQUAL) (ne_GREATER_OR_EQUAL_NOT_EQUAL : w_GREATER_OR_EQUAL ≠ w_NOT_EQUAL) : f0 p1 w_EQUAL w_NOT_EQUAL w_LESS w_LESS_OR_EQUAL w_GREATER w_GREATER_OR_EQUAL w_CS y_EQUAL k_EQUAL v_EQUAL z_v_EQUAL c_v_EQUAL y_NOT_EQUAL k_NOT_EQUAL v_NOT_EQUAL z_v_NOT_EQUAL c_v_NOT_EQUAL y_LESS k_LESS v_LESS z_v_LESS c_v_LESS y_LESS_OR_EQUAL k_LESS_OR_EQUAL v_LESS_OR_EQUAL z_v_LESS_OR_EQUAL c_v_LESS_OR_EQUAL y_GREATER k_GREATER v_GREATER z_v_GREATER c_v_GREATER y_GREATER_OR_EQUAL k_GREATER_OR_EQUAL v_GREATER_OR_EQUAL z_v_GREATER_OR_EQUAL c_v_GREATER_OR_EQUAL = 1 := by
  have g_EQUAL : f2 y_EQUAL 0 w_CS k_EQUAL v_EQUAL z_v_EQUAL c_v_EQUAL = 61 := by unfold f2 f4; rw [show (0 : Int32).toNatClampNeg = 0 from rfl, h_EQUAL]; rfl
  have g_NOT_EQUAL : f2 y_NOT_EQUAL 0 w_CS k_NOT_EQUAL v_NOT_EQUAL z_v_NOT_EQUAL c_v_NOT_EQUAL = 33 := by unfold f2 f4; rw [show (0 : Int32).toNatClampNeg = 0 from rfl, h_NOT_EQUAL]; rfl
  have g_LESS : f2 y_LESS 0 w_CS k_LESS v_LESS z_v_LESS c_v_LESS = 60 := by unfold f2 f4; rw [show (0 : Int32).toNatClampNeg = 0 from rfl, h_LESS]; rfl
  have g_LESS_OR_EQUAL : f2 y_LESS_OR_EQUAL 0 w_CS k_LESS_OR_EQUAL v_LESS_OR_EQUAL z_v_LESS_OR_EQUAL c_v_LESS_OR_EQUAL = 60 := by unfold f2 f4; rw [show (0 : Int32).toNatClampNeg = 0 from rfl, h_LESS_OR_EQUAL]; rfl
  have g_GREATER : f2 y_GREATER 0 w_CS k_GREATER v_GREATER z_v_GREATER c_v_GREATER = 62 := by unfold f2 f4; rw [show (0 : Int32).toNatClampNeg = 0 from rfl, h_GREATER]; rfl
  have g_GREATER_OR_EQUAL : f2 y_GREATER_OR_EQUAL 0 w_CS k_GREATER_OR_EQUAL v_GREATER_OR_EQUAL z_v_GREATER_OR_EQUAL c_v_GREATER_OR_EQUAL = 62 := by unfold f2 f4; rw [show (0 : Int32).toNatClampNeg = 0 from rfl, h_GREATER_OR_EQUAL]; rfl
  have r := own_k6 p1
  simp only [f0, f0_s0_81, f0_s0_115, f0_s0_81_3, f0_s0_115_4, f0_s0_81_5, f0_s0_115_6, f0_s0_81_7, f0_v94, f0_s0_115_8, f0_v115, f0_s0_81_9, f0_s0_115_10, f0_s0_81_11, f0_v94_12, f0_s0_115_13, f0_v115_14, f7, g_EQUAL, g_NOT_EQUAL, g_LESS, g_LESS_OR_EQUAL, g_GREATER, g_GREATER_OR_EQUAL]
  generalize f0_v6 p1 = k at *
  have e0 : (0 : Int32).toInt = 0 := rfl
  have e1 : (1 : Int32).toInt = 1 := rfl
  have e2 : (2 : Int32).toInt = 2 := rfl
  have e3 : (3 : Int32).toInt = 3 := rfl
  have e4 : (4 : Int32).toInt = 4 := rfl
  have e5 : (5 : Int32).toInt = 5 := rfl
  have hk : k = 0 ∨ k = 1 ∨ k = 2 ∨ k = 3 ∨ k = 4 ∨ k = 5 := by
    simp only [← Int32.toInt_inj]; omega
  rcases hk with rfl | rfl | rfl | rfl | rfl | rfl
  all_goals simp [ne_NOT_EQUAL_EQUAL, ne_LESS_EQUAL, ne_LESS_NOT_EQUAL, ne_LESS_OR_EQUAL_EQUAL, ne_LESS_OR_EQUAL_NOT_EQUAL, ne_GREATER_EQUAL, ne_GREATER_NOT_EQUAL, ne_GREATER_OR_EQUAL_EQUAL, ne_GREATER_OR_EQUAL_NOT_EQUAL]
set_option maxRecDepth 65536 in
set_option maxHeartbeats 40000000 in
theorem comes_1 {Post : Tables → Env → Array Value → State → Outcome → State → Prop} (hpost : ∀ tb e args s v u, (limb_1_1.after args s (.returned v) u = true ∧ limb_1_2.after args s (.returned v) u = true ∧ True) → FrameEnd s (.returned v) u (Jvm.fieldLocs frame_1_writes args s ++ Jvm.arrayLocs frame_1_arrays args s ++ Jvm.staticLocs frame_1_statics s) 0 0 → Post tb e args s (.returned v) u) :
    ArmFor flags0 classFile x code maxLocals ret World_1 tables_1 room_1 Calls_1 rest_1 Pre_1 Post := by
  intro l hfl _ _ p e ha hc hk s m args below hf hA hF happ hP
  obtain ⟨hcalls, hrest, hpre⟩ := hP
  obtain ⟨-, -, -, hnamed, -, -, -, hat⟩ := (Spec.applies_iff hf).mp happ
  obtain ⟨hg, hn⟩ := and_e (Cond.before_iff.mp (show (Jvm.Cond.and given_1 narrow_1).before args s = true from hpre))
  obtain ⟨g1, g2⟩ := and_e hg
  obtain ⟨w0, rfl⟩ : ∃ w0 : Value, args = #[w0] := by
    have hs : args.size = 1 := by simpa [Cond.value, given_1] using g1
    obtain ⟨L⟩ := args
    match L, hs with
    | [w0], _ => exact ⟨w0, rfl⟩
  have hw := fun d (hd : d ∈ tables_1) => atoms_spec (ws := Jvm.Cond.code x code maxLocals ret :: tables_1) hat d (List.mem_cons_of_mem _ hd)
  have hfit : Fit s := fun {y c} hc i hi => by
    obtain ⟨ha, rfl⟩ := Array.getElem?_eq_some_iff.mp hc
    have q := List.all_eq_true.mp ((Array.all_eq_true_iff_forall_mem.mp hF) _ (Array.getElem_mem ha)) i (List.mem_range.mpr hi)
    simpa [Array.getElem?_eq_getElem hi] using q
  obtain ⟨i0, ei0⟩ := is_v g2
  obtain rfl : w0 = (.int i0) := Option.some.inj ei0
  obtain ⟨n1, n2⟩ := and_e hn
  obtain ⟨n3, n4⟩ := and_e n2
  obtain ⟨n5, n6⟩ := and_e n4
  obtain ⟨n7, n8⟩ := and_e n6
  obtain ⟨n9, n10⟩ := and_e n8
  obtain ⟨n11, n12⟩ := and_e n10
  obtain ⟨n13, n14⟩ := and_e n12
  obtain ⟨n15, n16⟩ := and_e n14
  obtain ⟨n17, n18⟩ := and_e n16
  obtain ⟨n19, n20⟩ := and_e n18
  obtain ⟨n21, n22⟩ := and_e n20
  obtain ⟨n23, n24⟩ := and_e n22
  obtain ⟨n25, n26⟩ := and_e n24
  obtain ⟨n27, n28⟩ := and_e n26
  obtain ⟨n29, n30⟩ := and_e n28
  obtain ⟨n31, n32⟩ := and_e n30
  obtain ⟨n33, n34⟩ := and_e n32
  obtain ⟨n35, n36⟩ := and_e n34
  obtain ⟨n37, n38⟩ := and_e n36
  obtain ⟨n39, n40⟩ := and_e n38
  obtain ⟨n41, n42⟩ := and_e n40
  obtain ⟨n43, n44⟩ := and_e n42
  obtain ⟨n45, n46⟩ := and_e n44
  obtain ⟨n47, n48⟩ := and_e n46
  obtain ⟨n49, n50⟩ := and_e n48
  obtain ⟨n51, n52⟩ := and_e n50
  obtain ⟨n53, n54⟩ := and_e n52
  obtain ⟨n55, n56⟩ := and_e n54
  obtain ⟨n57, n58⟩ := and_e n56
  obtain ⟨n59, n60⟩ := and_e n58
  obtain ⟨n61, n62⟩ := and_e n60
  obtain ⟨n63, n64⟩ := and_e n62
  obtain ⟨n65, n66⟩ := and_e n64
  obtain ⟨n67, n68⟩ := and_e n66
  obtain ⟨n69, n70⟩ := and_e n68
  obtain ⟨n71, n72⟩ := and_e n70
  obtain ⟨n73, n74⟩ := and_e n72
  obtain ⟨n75, n76⟩ := and_e n74
  obtain ⟨n77, n78⟩ := and_e n76
  obtain ⟨n79, n80⟩ := and_e n78
  obtain ⟨n81, n82⟩ := and_e n80
  obtain ⟨n83, n84⟩ := and_e n82
  obtain ⟨n85, n86⟩ := and_e n84
  obtain ⟨n87, n88⟩ := and_e n86
  obtain ⟨n89, n90⟩ := and_e n88
  obtain ⟨hsets, hown0⟩ := atoms_of _ (rest_1_c_eq ▸ (show rest_1_c.before _ s = true from hrest))
  obtain ⟨w_CS, e_CS⟩ := is_v (Cond.before_iff.mp (hsets _ (List.mem_of_getElem? (i := 1) rfl)))
  have S_CS : Sta s s.heap "java/lang/String" "COMPACT_STRINGS" "Z" (.int w_CS) := Sta.start e_CS (Or.inl (hsets _ (List.mem_of_getElem? (i := 0) rfl)))
  have hcs : ¬ w_CS = 0 := gotF (Cond.eq_ints e_CS rfl) (not_v (Cond.before_iff.mp (hsets _ (List.mem_of_getElem? (i := 2) rfl))))
  obtain ⟨w_SIO, e_SIO, r_SIO⟩ := isR_v (Cond.before_iff.mp (hsets _ (List.mem_of_getElem? (i := 8) rfl)))
  have S_SIO : Sta s s.heap "jdk/internal/util/Preconditions" "SIOOBE_FORMATTER" "Ljava/util/function/BiFunction;" w_SIO := Sta.start e_SIO (Or.inl (hsets _ (List.mem_of_getElem? (i := 7) rfl)))
  have hcat : w_SIO.category = 1 := own_cat r_SIO
  obtain ⟨a_EQUAL, ea_EQUAL⟩ := exa_v n1
  have S_EQUAL : Sta s s.heap "com/example/inline_monitor/inlinemonitor/model/Guard$Relation" "EQUAL" "Lcom/example/inline_monitor/inlinemonitor/model/Guard$Relation;" (.ref a_EQUAL) := Sta.start ea_EQUAL (Or.inr ⟨(hw _ (List.mem_of_getElem? (i := 2) rfl)), (hw _ (List.mem_of_getElem? (i := 3) rfl))⟩)
  have E_EQUAL : Exa s s.heap a_EQUAL "com/example/inline_monitor/inlinemonitor/model/Guard$Relation" := Exa.start ea_EQUAL n1
  have O_EQUAL : Fld s s.heap a_EQUAL "java/lang/Enum" "ordinal" "I" (.int 0) := Fld.start ((fld_at ea_EQUAL).symm.trans (own_eqint n27))
  obtain ⟨y_EQUAL, ey_EQUAL⟩ := exa_v n3
  have Y_EQUAL : Fld s s.heap a_EQUAL "com/example/inline_monitor/inlinemonitor/model/Guard$Relation" "symbol" "Ljava/lang/String;" (.ref y_EQUAL) := Fld.start ((fld_at ea_EQUAL).symm.trans ey_EQUAL)
  have T_EQUAL : Exa s s.heap y_EQUAL "java/lang/String" := Exa.start ey_EQUAL n3
  have C_EQUAL : Fld s s.heap y_EQUAL "java/lang/String" "coder" "B" (.int 0) := Fld.start ((fld_at ey_EQUAL).symm.trans (own_eqint n5))
  obtain ⟨v_EQUAL, ev_EQUAL⟩ := arr_v n7
  have U_EQUAL : Fld s s.heap y_EQUAL "java/lang/String" "value" "[B" (.ref v_EQUAL) := Fld.start ((fld_at ey_EQUAL).symm.trans ev_EQUAL)
  obtain ⟨cl_EQUAL, Ac_EQUAL⟩ := Arr.start ev_EQUAL n7
  have hat_EQUAL := Arr.fin (Vm.Alike.refl _) Ac_EQUAL
  obtain ⟨hl_EQUAL, hsz_EQUAL⟩ := own_len ev_EQUAL hat_EQUAL n9
  have V_EQUAL := own_ofTab (Tab.start hfit Ac_EQUAL (Or.inr (Or.inr (Or.inl rfl))) hl_EQUAL hsz_EQUAL (by decide)) hl_EQUAL
  have P_EQUAL : atv cl_EQUAL (0 : Int32) = 61 := own_elemv ev_EQUAL rfl Ac_EQUAL.1 n11
  obtain ⟨a_NOT_EQUAL, ea_NOT_EQUAL⟩ := exa_v n29
  have S_NOT_EQUAL : Sta s s.heap "com/example/inline_monitor/inlinemonitor/model/Guard$Relation" "NOT_EQUAL" "Lcom/example/inline_monitor/inlinemonitor/model/Guard$Relation;" (.ref a_NOT_EQUAL) := Sta.start ea_NOT_EQUAL (Or.inr ⟨(hw _ (List.mem_of_getElem? (i := 2) rfl)), (hw _ (List.mem_of_getElem? (i := 48) rfl))⟩)
  have E_NOT_EQUAL : Exa s s.heap a_NOT_EQUAL "com/example/inline_monitor/inlinemonitor/model/Guard$Relation" := Exa.start ea_NOT_EQUAL n29
  have O_NOT_EQUAL : Fld s s.heap a_NOT_EQUAL "java/lang/Enum" "ordinal" "I" (.int 1) := Fld.start ((fld_at ea_NOT_EQUAL).symm.trans (own_eqint n31))
  obtain ⟨y_NOT_EQUAL, ey_NOT_EQUAL⟩ := exa_v n47
  have Y_NOT_EQUAL : Fld s s.heap a_NOT_EQUAL "com/example/inline_monitor/inlinemonitor/model/Guard$Relation" "symbol" "Ljava/lang/String;" (.ref y_NOT_EQUAL) := Fld.start ((fld_at ea_NOT_EQUAL).symm.trans ey_NOT_EQUAL)
  have T_NOT_EQUAL : Exa s s.heap y_NOT_EQUAL "java/lang/String" := Exa.start ey_NOT_EQUAL n47
  have C_NOT_EQUAL : Fld s s.heap y_NOT_EQUAL "java/lang/String" "coder" "B" (.int 0) := Fld.start ((fld_at ey_NOT_EQUAL).symm.trans (own_eqint n49))
  obtain ⟨v_NOT_EQUAL, ev_NOT_EQUAL⟩ := arr_v n51
  have U_NOT_EQUAL : Fld s s.heap y_NOT_EQUAL "java/lang/String" "value" "[B" (.ref v_NOT_EQUAL) := Fld.start ((fld_at ey_NOT_EQUAL).symm.trans ev_NOT_EQUAL)
  obtain ⟨cl_NOT_EQUAL, Ac_NOT_EQUAL⟩ := Arr.start ev_NOT_EQUAL n51
  have hat_NOT_EQUAL := Arr.fin (Vm.Alike.refl _) Ac_NOT_EQUAL
  obtain ⟨hl_NOT_EQUAL, hsz_NOT_EQUAL⟩ := own_len ev_NOT_EQUAL hat_NOT_EQUAL n53
  have V_NOT_EQUAL := own_ofTab (Tab.start hfit Ac_NOT_EQUAL (Or.inr (Or.inr (Or.inl rfl))) hl_NOT_EQUAL hsz_NOT_EQUAL (by decide)) hl_NOT_EQUAL
  have P_NOT_EQUAL : atv cl_NOT_EQUAL (0 : Int32) = 33 := own_elemv ev_NOT_EQUAL rfl Ac_NOT_EQUAL.1 n55
  obtain ⟨a_LESS, ea_LESS⟩ := exa_v n33
  have S_LESS : Sta s s.heap "com/example/inline_monitor/inlinemonitor/model/Guard$Relation" "LESS" "Lcom/example/inline_monitor/inlinemonitor/model/Guard$Relation;" (.ref a_LESS) := Sta.start ea_LESS (Or.inr ⟨(hw _ (List.mem_of_getElem? (i := 2) rfl)), (hw _ (List.mem_of_getElem? (i := 50) rfl))⟩)
  have E_LESS : Exa s s.heap a_LESS "com/example/inline_monitor/inlinemonitor/model/Guard$Relation" := Exa.start ea_LESS n33
  have O_LESS : Fld s s.heap a_LESS "java/lang/Enum" "ordinal" "I" (.int 2) := Fld.start ((fld_at ea_LESS).symm.trans (own_eqint n45))
  obtain ⟨y_LESS, ey_LESS⟩ := exa_v n35
  have Y_LESS : Fld s s.heap a_LESS "com/example/inline_monitor/inlinemonitor/model/Guard$Relation" "symbol" "Ljava/lang/String;" (.ref y_LESS) := Fld.start ((fld_at ea_LESS).symm.trans ey_LESS)
  have T_LESS : Exa s s.heap y_LESS "java/lang/String" := Exa.start ey_LESS n35
  have C_LESS : Fld s s.heap y_LESS "java/lang/String" "coder" "B" (.int 0) := Fld.start ((fld_at ey_LESS).symm.trans (own_eqint n37))
  obtain ⟨v_LESS, ev_LESS⟩ := arr_v n39
  have U_LESS : Fld s s.heap y_LESS "java/lang/String" "value" "[B" (.ref v_LESS) := Fld.start ((fld_at ey_LESS).symm.trans ev_LESS)
  obtain ⟨cl_LESS, Ac_LESS⟩ := Arr.start ev_LESS n39
  have hat_LESS := Arr.fin (Vm.Alike.refl _) Ac_LESS
  obtain ⟨hl_LESS, hsz_LESS⟩ := own_len ev_LESS hat_LESS n41
  have V_LESS := own_ofTab (Tab.start hfit Ac_LESS (Or.inr (Or.inr (Or.inl rfl))) hl_LESS hsz_LESS (by decide)) hl_LESS
  have P_LESS : atv cl_LESS (0 : Int32) = 60 := own_elemv ev_LESS rfl Ac_LESS.1 n43
  obtain ⟨a_LESS_OR_EQUAL, ea_LESS_OR_EQUAL⟩ := exa_v n13
  have S_LESS_OR_EQUAL : Sta s s.heap "com/example/inline_monitor/inlinemonitor/model/Guard$Relation" "LESS_OR_EQUAL" "Lcom/example/inline_monitor/inlinemonitor/model/Guard$Relation;" (.ref a_LESS_OR_EQUAL) := Sta.start ea_LESS_OR_EQUAL (Or.inr ⟨(hw _ (List.mem_of_getElem? (i := 2) rfl)), (hw _ (List.mem_of_getElem? (i := 46) rfl))⟩)
  have E_LESS_OR_EQUAL : Exa s s.heap a_LESS_OR_EQUAL "com/example/inline_monitor/inlinemonitor/model/Guard$Relation" := Exa.start ea_LESS_OR_EQUAL n13
  have O_LESS_OR_EQUAL : Fld s s.heap a_LESS_OR_EQUAL "java/lang/Enum" "ordinal" "I" (.int 3) := Fld.start ((fld_at ea_LESS_OR_EQUAL).symm.trans (own_eqint n25))
  obtain ⟨y_LESS_OR_EQUAL, ey_LESS_OR_EQUAL⟩ := exa_v n15
  have Y_LESS_OR_EQUAL : Fld s s.heap a_LESS_OR_EQUAL "com/example/inline_monitor/inlinemonitor/model/Guard$Relation" "symbol" "Ljava/lang/String;" (.ref y_LESS_OR_EQUAL) := Fld.start ((fld_at ea_LESS_OR_EQUAL).symm.trans ey_LESS_OR_EQUAL)
  have T_LESS_OR_EQUAL : Exa s s.heap y_LESS_OR_EQUAL "java/lang/String" := Exa.start ey_LESS_OR_EQUAL n15
  have C_LESS_OR_EQUAL : Fld s s.heap y_LESS_OR_EQUAL "java/lang/String" "coder" "B" (.int 0) := Fld.start ((fld_at ey_LESS_OR_EQUAL).symm.trans (own_eqint n17))
  obtain ⟨v_LESS_OR_EQUAL, ev_LESS_OR_EQUAL⟩ := arr_v n19
  have U_LESS_OR_EQUAL : Fld s s.heap y_LESS_OR_EQUAL "java/lang/String" "value" "[B" (.ref v_LESS_OR_EQUAL) := Fld.start ((fld_at ey_LESS_OR_EQUAL).symm.trans ev_LESS_OR_EQUAL)
  obtain ⟨cl_LESS_OR_EQUAL, Ac_LESS_OR_EQUAL⟩ := Arr.start ev_LESS_OR_EQUAL n19
  have hat_LESS_OR_EQUAL := Arr.fin (Vm.Alike.refl _) Ac_LESS_OR_EQUAL
  obtain ⟨hl_LESS_OR_EQUAL, hsz_LESS_OR_EQUAL⟩ := own_len ev_LESS_OR_EQUAL hat_LESS_OR_EQUAL n21
  have V_LESS_OR_EQUAL := own_ofTab (Tab.start hfit Ac_LESS_OR_EQUAL (Or.inr (Or.inr (Or.inl rfl))) hl_LESS_OR_EQUAL hsz_LESS_OR_EQUAL (by decide)) hl_LESS_OR_EQUAL
  have P_LESS_OR_EQUAL : atv cl_LESS_OR_EQUAL (0 : Int32) = 60 := own_elemv ev_LESS_OR_EQUAL rfl Ac_LESS_OR_EQUAL.1 n23
  obtain ⟨a_GREATER, ea_GREATER⟩ := exa_v n71
  have S_GREATER : Sta s s.heap "com/example/inline_monitor/inlinemonitor/model/Guard$Relation" "GREATER" "Lcom/example/inline_monitor/inlinemonitor/model/Guard$Relation;" (.ref a_GREATER) := Sta.start ea_GREATER (Or.inr ⟨(hw _ (List.mem_of_getElem? (i := 2) rfl)), (hw _ (List.mem_of_getElem? (i := 55) rfl))⟩)
  have E_GREATER : Exa s s.heap a_GREATER "com/example/inline_monitor/inlinemonitor/model/Guard$Relation" := Exa.start ea_GREATER n71
  have O_GREATER : Fld s s.heap a_GREATER "java/lang/Enum" "ordinal" "I" (.int 4) := Fld.start ((fld_at ea_GREATER).symm.trans (own_eqint n83))
  obtain ⟨y_GREATER, ey_GREATER⟩ := exa_v n73
  have Y_GREATER : Fld s s.heap a_GREATER "com/example/inline_monitor/inlinemonitor/model/Guard$Relation" "symbol" "Ljava/lang/String;" (.ref y_GREATER) := Fld.start ((fld_at ea_GREATER).symm.trans ey_GREATER)
  have T_GREATER : Exa s s.heap y_GREATER "java/lang/String" := Exa.start ey_GREATER n73
  have C_GREATER : Fld s s.heap y_GREATER "java/lang/String" "coder" "B" (.int 0) := Fld.start ((fld_at ey_GREATER).symm.trans (own_eqint n75))
  obtain ⟨v_GREATER, ev_GREATER⟩ := arr_v n77
  have U_GREATER : Fld s s.heap y_GREATER "java/lang/String" "value" "[B" (.ref v_GREATER) := Fld.start ((fld_at ey_GREATER).symm.trans ev_GREATER)
  obtain ⟨cl_GREATER, Ac_GREATER⟩ := Arr.start ev_GREATER n77
  have hat_GREATER := Arr.fin (Vm.Alike.refl _) Ac_GREATER
  obtain ⟨hl_GREATER, hsz_GREATER⟩ := own_len ev_GREATER hat_GREATER n79
  have V_GREATER := own_ofTab (Tab.start hfit Ac_GREATER (Or.inr (Or.inr (Or.inl rfl))) hl_GREATER hsz_GREATER (by decide)) hl_GREATER
  have P_GREATER : atv cl_GREATER (0 : Int32) = 62 := own_elemv ev_GREATER rfl Ac_GREATER.1 n81
  obtain ⟨a_GREATER_OR_EQUAL, ea_GREATER_OR_EQUAL⟩ := exa_v n57
  have S_GREATER_OR_EQUAL : Sta s s.heap "com/example/inline_monitor/inlinemonitor/model/Guard$Relation" "GREATER_OR_EQUAL" "Lcom/example/inline_monitor/inlinemonitor/model/Guard$Relation;" (.ref a_GREATER_OR_EQUAL) := Sta.start ea_GREATER_OR_EQUAL (Or.inr ⟨(hw _ (List.mem_of_getElem? (i := 2) rfl)), (hw _ (List.mem_of_getElem? (i := 53) rfl))⟩)
  have E_GREATER_OR_EQUAL : Exa s s.heap a_GREATER_OR_EQUAL "com/example/inline_monitor/inlinemonitor/model/Guard$Relation" := Exa.start ea_GREATER_OR_EQUAL n57
  have O_GREATER_OR_EQUAL : Fld s s.heap a_GREATER_OR_EQUAL "java/lang/Enum" "ordinal" "I" (.int 5) := Fld.start ((fld_at ea_GREATER_OR_EQUAL).symm.trans (own_eqint n69))
  obtain ⟨y_GREATER_OR_EQUAL, ey_GREATER_OR_EQUAL⟩ := exa_v n59
  have Y_GREATER_OR_EQUAL : Fld s s.heap a_GREATER_OR_EQUAL "com/example/inline_monitor/inlinemonitor/model/Guard$Relation" "symbol" "Ljava/lang/String;" (.ref y_GREATER_OR_EQUAL) := Fld.start ((fld_at ea_GREATER_OR_EQUAL).symm.trans ey_GREATER_OR_EQUAL)
  have T_GREATER_OR_EQUAL : Exa s s.heap y_GREATER_OR_EQUAL "java/lang/String" := Exa.start ey_GREATER_OR_EQUAL n59
  have C_GREATER_OR_EQUAL : Fld s s.heap y_GREATER_OR_EQUAL "java/lang/String" "coder" "B" (.int 0) := Fld.start ((fld_at ey_GREATER_OR_EQUAL).symm.trans (own_eqint n61))
  obtain ⟨v_GREATER_OR_EQUAL, ev_GREATER_OR_EQUAL⟩ := arr_v n63
  have U_GREATER_OR_EQUAL : Fld s s.heap y_GREATER_OR_EQUAL "java/lang/String" "value" "[B" (.ref v_GREATER_OR_EQUAL) := Fld.start ((fld_at ey_GREATER_OR_EQUAL).symm.trans ev_GREATER_OR_EQUAL)
  obtain ⟨cl_GREATER_OR_EQUAL, Ac_GREATER_OR_EQUAL⟩ := Arr.start ev_GREATER_OR_EQUAL n63
  have hat_GREATER_OR_EQUAL := Arr.fin (Vm.Alike.refl _) Ac_GREATER_OR_EQUAL
  obtain ⟨hl_GREATER_OR_EQUAL, hsz_GREATER_OR_EQUAL⟩ := own_len ev_GREATER_OR_EQUAL hat_GREATER_OR_EQUAL n65
  have V_GREATER_OR_EQUAL := own_ofTab (Tab.start hfit Ac_GREATER_OR_EQUAL (Or.inr (Or.inr (Or.inl rfl))) hl_GREATER_OR_EQUAL hsz_GREATER_OR_EQUAL (by decide)) hl_GREATER_OR_EQUAL
  have P_GREATER_OR_EQUAL : atv cl_GREATER_OR_EQUAL (0 : Int32) = 62 := own_elemv ev_GREATER_OR_EQUAL rfl Ac_GREATER_OR_EQUAL.1 n67
  have ne_NOT_EQUAL_EQUAL : a_NOT_EQUAL ≠ a_EQUAL := Fld.ne O_NOT_EQUAL O_EQUAL (by decide)
  have ne_LESS_EQUAL : a_LESS ≠ a_EQUAL := Fld.ne O_LESS O_EQUAL (by decide)
  have ne_LESS_NOT_EQUAL : a_LESS ≠ a_NOT_EQUAL := Fld.ne O_LESS O_NOT_EQUAL (by decide)
  have ne_LESS_OR_EQUAL_EQUAL : a_LESS_OR_EQUAL ≠ a_EQUAL := Fld.ne O_LESS_OR_EQUAL O_EQUAL (by decide)
  have ne_LESS_OR_EQUAL_NOT_EQUAL : a_LESS_OR_EQUAL ≠ a_NOT_EQUAL := Fld.ne O_LESS_OR_EQUAL O_NOT_EQUAL (by decide)
  have ne_GREATER_EQUAL : a_GREATER ≠ a_EQUAL := Fld.ne O_GREATER O_EQUAL (by decide)
  have ne_GREATER_NOT_EQUAL : a_GREATER ≠ a_NOT_EQUAL := Fld.ne O_GREATER O_NOT_EQUAL (by decide)
  have ne_GREATER_OR_EQUAL_EQUAL : a_GREATER_OR_EQUAL ≠ a_EQUAL := Fld.ne O_GREATER_OR_EQUAL O_EQUAL (by decide)
  have ne_GREATER_OR_EQUAL_NOT_EQUAL : a_GREATER_OR_EQUAL ≠ a_NOT_EQUAL := Fld.ne O_GREATER_OR_EQUAL O_NOT_EQUAL (by decide)
  obtain ⟨n, o, h1, h2, h3, v', L, rfl, ⟨hv', N, -⟩, hq⟩ := rm0 l s _ hw tables_1 i0 a_EQUAL a_NOT_EQUAL a_LESS a_LESS_OR_EQUAL a_GREATER a_GREATER_OR_EQUAL w_CS w_SIO y_EQUAL 0 v_EQUAL 2 (fun i => atv cl_EQUAL i.toInt32) y_NOT_EQUAL 0 v_NOT_EQUAL 2 (fun i => atv cl_NOT_EQUAL i.toInt32) y_LESS 0 v_LESS 1 (fun i => atv cl_LESS i.toInt32) y_LESS_OR_EQUAL 0 v_LESS_OR_EQUAL 2 (fun i => atv cl_LESS_OR_EQUAL i.toInt32) y_GREATER 0 v_GREATER 1 (fun i => atv cl_GREATER i.toInt32) y_GREATER_OR_EQUAL 0 v_GREATER_OR_EQUAL 2 (fun i => atv cl_GREATER_OR_EQUAL i.toInt32) s.heap s.heap.size (Nat.le_refl _) S_EQUAL S_NOT_EQUAL S_LESS S_LESS_OR_EQUAL S_GREATER S_GREATER_OR_EQUAL E_EQUAL E_NOT_EQUAL E_LESS E_LESS_OR_EQUAL E_GREATER E_GREATER_OR_EQUAL S_CS hcs S_SIO hcat Y_EQUAL T_EQUAL C_EQUAL rfl U_EQUAL V_EQUAL (by decide) Y_NOT_EQUAL T_NOT_EQUAL C_NOT_EQUAL rfl U_NOT_EQUAL V_NOT_EQUAL (by decide) Y_LESS T_LESS C_LESS rfl U_LESS V_LESS (by decide) Y_LESS_OR_EQUAL T_LESS_OR_EQUAL C_LESS_OR_EQUAL rfl U_LESS_OR_EQUAL V_LESS_OR_EQUAL (by decide) Y_GREATER T_GREATER C_GREATER rfl U_GREATER V_GREATER (by decide) Y_GREATER_OR_EQUAL T_GREATER_OR_EQUAL C_GREATER_OR_EQUAL rfl U_GREATER_OR_EQUAL V_GREATER_OR_EQUAL (by decide) p e ha hc hk s m _ below hf ((Spec.applies_iff_loose hf).mp happ).1 ⟨rfl, State.Warmed39.refl s, rfl⟩ trivial
  rw [own_law i0 a_EQUAL a_NOT_EQUAL a_LESS a_LESS_OR_EQUAL a_GREATER a_GREATER_OR_EQUAL w_CS y_EQUAL 0 v_EQUAL 2 (fun i => atv cl_EQUAL i.toInt32) y_NOT_EQUAL 0 v_NOT_EQUAL 2 (fun i => atv cl_NOT_EQUAL i.toInt32) y_LESS 0 v_LESS 1 (fun i => atv cl_LESS i.toInt32) y_LESS_OR_EQUAL 0 v_LESS_OR_EQUAL 2 (fun i => atv cl_LESS_OR_EQUAL i.toInt32) y_GREATER 0 v_GREATER 1 (fun i => atv cl_GREATER i.toInt32) y_GREATER_OR_EQUAL 0 v_GREATER_OR_EQUAL 2 (fun i => atv cl_GREATER_OR_EQUAL i.toInt32) P_EQUAL P_NOT_EQUAL P_LESS P_LESS_OR_EQUAL P_GREATER P_GREATER_OR_EQUAL ne_NOT_EQUAL_EQUAL ne_LESS_EQUAL ne_LESS_NOT_EQUAL ne_LESS_OR_EQUAL_EQUAL ne_LESS_OR_EQUAL_NOT_EQUAL ne_GREATER_EQUAL ne_GREATER_NOT_EQUAL ne_GREATER_OR_EQUAL_EQUAL ne_GREATER_OR_EQUAL_NOT_EQUAL] at hv'
  subst hv'
  refine ⟨n, _, h1, h2, h3, hpost _ _ _ _ _ _ ⟨Cond.after_iff.mpr rfl, Cond.after_iff.mpr (eq_i res_at (Term.int_eval (1)) rfl), trivial⟩ ⟨hq.1, hq.2.1, (hq.2.2.sift fun y hy => Or.inr (N y hy)).mono (by decide) (by decide)⟩⟩
theorem main_1_1 : Claimed_1_1 := comes_1 fun _ _ _ _ _ _ h hF => ⟨h.1, hF⟩
theorem main_1_2 : Claimed_1_2 := comes_1 fun _ _ _ _ _ _ h hF => ⟨h.2.1, hF⟩
end Jvm.Pilot.@@N@@
namespace Jvm.Pilot.@@N@@
open Jvm Jvm.ClassFile Sem Op Lib Jvm.Free Jvm.Stand Jvm.Pilot.@@N@@.Jvm.D
/-! MADE BY PROGRAM (witnessworld.py) out of the Statement's table words and the real class files: 18 classes; the members and pool entries that the words name. The judged class is class 1, her method 1. -/
namespace start1
open Jvm.ClassFile
def u (s : String) : CpInfo := .utf8 (stringToUtf16 s)
/-- a pool by its gaps: so many unusable entries, then the entry; so many at the end -/
def gap : Nat → List CpInfo → List CpInfo
  | 0, r => r
  | n + 1, r => .unusable :: gap n r
def poolList (es : List (Nat × CpInfo)) (last : Nat) : List CpInfo := es.foldr (fun e r => gap e.1 (e.2 :: r)) (gap last [])
def pool (es : List (Nat × CpInfo)) (last : Nat) : Array CpInfo := ⟨poolList es last⟩
def fileOf (pool : Array CpInfo) (this : Nat) (attrs : Array Attribute := #[]) (ms : Array MethodInfo := #[]) (fl : Nat := 33) (sup : Nat := 0) (ifs : Array Nat := #[]) (fds : Array FieldInfo := #[]) : ClassFile where
  minorVersion := 0
  majorVersion := 65
  constantPool := pool
  accessFlags := fl
  thisClass := this
  superClass := sup
  interfaces := ifs
  fields := fds
  methods := ms
  attributes := attrs
def plain (name : String) (sup : Option ClassId) : Class where
  name := name
  kind := .ordinary
  loader := none
  accessFlags := 33
  super := sup
  interfaces := #[]
  cf := none
  fields := #[]
  methods := #[]
  instanceTypes := #[]
  staticTypes := #[]
  resolved := #[]
  callSites := []
  init := .initialized
  statics := none
  mirror := none

def pool0 : Array CpInfo := pool [(5, u "<init>"), (0, u "()V"), (1, .class_ 10), (1, u "java/lang/Object")] 113

def k0m0 : Method := { name := "<init>", desc := "()V", sig := { parameters := [], returnType := none }, accessFlags := 1, code := none }
/-- java/lang/Object -/
def k0 : Class := { plain "java/lang/Object" none with
  accessFlags := 33
  interfaces := #[]
  cf := some (fileOf pool0 8 #[] #[{ accessFlags := 1, nameIndex := 5, descriptorIndex := 6, attributes := #[] }] 33 0 #[] #[])
  fields := #[]
  methods := #[k0m0]
  instanceTypes := #[]
  staticTypes := #[]
  resolved := Array.replicate 124 none
  statics := none }

def pool1 : Array CpInfo := pool [(2, .class_ 4), (1, u "java/lang/Object"), (0, u "<init>"), (0, u "()V"), (0, .integer 2147483647), (0, .fieldref 9 10), (0, .class_ 11), (0, .nameAndType 12 13), (0, u "com/example/inline_monitor/inlinemonitor/model/Guard$Relation"), (0, u "EQUAL"), (0, u "Lcom/example/inline_monitor/inlinemonitor/model/Guard$Relation;"), (0, .fieldref 9 15), (0, .nameAndType 16 13), (0, u "NOT_EQUAL"), (0, .fieldref 9 18), (0, .nameAndType 19 13), (0, u "LESS"), (0, .fieldref 9 21), (0, .nameAndType 22 13), (0, u "LESS_OR_EQUAL"), (0, .fieldref 9 24), (0, .nameAndType 25 13), (0, u "GREATER"), (0, .fieldref 9 27), (0, .nameAndType 28 13), (0, u "GREATER_OR_EQUAL"), (0, .methodref 9 30), (0, .nameAndType 31 32), (0, u "symbol"), (0, u "()Ljava/lang/String;"), (0, .methodref 34 35), (0, .class_ 36), (0, .nameAndType 37 38), (0, u "java/lang/String"), (0, u "charAt"), (0, u "(I)C"), (0, .methodref 9 40), (0, .nameAndType 41 42), (0, u "isOrdering"), (0, u "()Z"), (0, .class_ 44), (0, u "com/example/inline_monitor/inlinemonitor/model/RelationIsOrderingPinLaw"), (2, u "law"), (0, u "(I)Z")] 7

def k1m0 : Method := { name := "<init>", desc := "()V", sig := { parameters := [], returnType := none }, accessFlags := 1, code := none }
def k1c1 : Code := { maxStack := 2, maxLocals := 7, code := code, exceptionTable := #[], attributes := #[] }
def k1m1 : Method := { name := "law", desc := "(I)Z", sig := { parameters := [.int], returnType := some .boolean }, accessFlags := 9, code := some k1c1 }
/-- com/example/inline_monitor/inlinemonitor/model/RelationIsOrderingPinLaw -/
def k1 : Class := { plain "com/example/inline_monitor/inlinemonitor/model/RelationIsOrderingPinLaw" (some 0) with
  accessFlags := 49
  interfaces := #[]
  cf := some (fileOf pool1 43 #[] #[{ accessFlags := 1, nameIndex := 5, descriptorIndex := 6, attributes := #[] }, { accessFlags := 9, nameIndex := 47, descriptorIndex := 48, attributes := #[] }] 49 2 #[] #[])
  fields := #[]
  methods := #[k1m0, k1m1]
  instanceTypes := #[]
  staticTypes := #[]
  resolved := Array.replicate 56 none
  statics := none }

def pool2 : Array CpInfo := pool [(1, .class_ 2), (0, u "java/lang/constant/Constable"), (0, .class_ 4), (0, u "java/lang/Object")] 6

/-- java/lang/constant/Constable -/
def k2 : Class := { plain "java/lang/constant/Constable" (some 0) with
  accessFlags := 1537
  interfaces := #[]
  cf := some (fileOf pool2 1 #[] #[] 1537 3 #[] #[])
  fields := #[]
  methods := #[]
  instanceTypes := #[]
  staticTypes := #[]
  resolved := Array.replicate 11 none
  statics := none }

def pool3 : Array CpInfo := pool [(1, .class_ 2), (0, u "java/lang/Comparable"), (0, .class_ 4), (0, u "java/lang/Object")] 7

/-- java/lang/Comparable -/
def k3 : Class := { plain "java/lang/Comparable" (some 0) with
  accessFlags := 1537
  interfaces := #[]
  cf := some (fileOf pool3 1 #[] #[] 1537 3 #[] #[])
  fields := #[]
  methods := #[]
  instanceTypes := #[]
  staticTypes := #[]
  resolved := Array.replicate 12 none
  statics := none }

def pool4 : Array CpInfo := pool [(1, .class_ 2), (0, u "java/io/Serializable"), (0, .class_ 4), (0, u "java/lang/Object")] 2

/-- java/io/Serializable -/
def k4 : Class := { plain "java/io/Serializable" (some 0) with
  accessFlags := 1537
  interfaces := #[]
  cf := some (fileOf pool4 1 #[] #[] 1537 3 #[] #[])
  fields := #[]
  methods := #[]
  instanceTypes := #[]
  staticTypes := #[]
  resolved := Array.replicate 7 none
  statics := none }

def pool5 : Array CpInfo := pool [(2, .class_ 4), (1, u "java/lang/Enum"), (0, u "name"), (0, u "Ljava/lang/String;"), (2, u "ordinal"), (0, u "I"), (1, .class_ 14), (1, u "java/lang/Object"), (4, u "hash"), (86, .class_ 108), (1, u "java/lang/Enum$EnumDesc"), (2, .class_ 112), (0, u "java/lang/constant/Constable"), (0, .class_ 114), (0, u "java/lang/Comparable"), (0, .class_ 116), (0, u "java/io/Serializable")] 87

/-- java/lang/Enum -/
def k5 : Class := { plain "java/lang/Enum" (some 0) with
  accessFlags := 1057
  interfaces := #[2, 3, 4]
  cf := some (fileOf pool5 2 #[.nestMembers #[106]] #[] 1057 12 #[111, 113, 115] #[{ accessFlags := 18, nameIndex := 5, descriptorIndex := 6, attributes := #[] }, { accessFlags := 18, nameIndex := 9, descriptorIndex := 10, attributes := #[] }, { accessFlags := 2, nameIndex := 19, descriptorIndex := 10, attributes := #[] }])
  fields := #[{ name := "name", type := (.object "java/lang/String"), accessFlags := 18, slot := 0, constantValue := 0 }, { name := "ordinal", type := .int, accessFlags := 18, slot := 1, constantValue := 0 }, { name := "hash", type := .int, accessFlags := 2, slot := 2, constantValue := 0 }]
  methods := #[]
  instanceTypes := #[(.object "java/lang/String"), .int, .int]
  staticTypes := #[]
  resolved := Array.replicate 204 none
  statics := none }

def pool6 : Array CpInfo := pool [(1, .class_ 2), (0, u "com/example/inline_monitor/inlinemonitor/model/Guard$Relation"), (0, .fieldref 1 4), (0, .nameAndType 5 6), (0, u "EQUAL"), (0, u "Lcom/example/inline_monitor/inlinemonitor/model/Guard$Relation;"), (0, .fieldref 1 8), (0, .nameAndType 9 6), (0, u "NOT_EQUAL"), (2, u "LESS"), (2, u "LESS_OR_EQUAL"), (2, u "GREATER"), (2, u "GREATER_OR_EQUAL"), (2, u "$VALUES"), (0, u "[Lcom/example/inline_monitor/inlinemonitor/model/Guard$Relation;"), (6, .class_ 34), (1, u "java/lang/Enum"), (6, .fieldref 1 42), (0, .nameAndType 43 44), (0, u "symbol"), (0, u "Ljava/lang/String;"), (32, u "()Ljava/lang/String;"), (0, u "isOrdering"), (0, u "()Z"), (7, .class_ 88), (0, u "com/example/inline_monitor/inlinemonitor/model/Guard")] 2

def k6c0 : Code := { maxStack := 1, maxLocals := 1, code := prog_35_method_4_code, exceptionTable := #[], attributes := #[] }
def k6m0 : Method := { name := "symbol", desc := "()Ljava/lang/String;", sig := { parameters := [], returnType := some (.object "java/lang/String") }, accessFlags := 1, code := some k6c0 }
def k6c1 : Code := { maxStack := 2, maxLocals := 1, code := prog_35_method_5_code, exceptionTable := #[], attributes := #[] }
def k6m1 : Method := { name := "isOrdering", desc := "()Z", sig := { parameters := [], returnType := some .boolean }, accessFlags := 1, code := some k6c1 }
/-- com/example/inline_monitor/inlinemonitor/model/Guard$Relation -/
def k6 : Class := { plain "com/example/inline_monitor/inlinemonitor/model/Guard$Relation" (some 5) with
  accessFlags := 16433
  interfaces := #[]
  cf := some (fileOf pool6 1 #[.nestHost 87] #[{ accessFlags := 1, nameIndex := 43, descriptorIndex := 77, attributes := #[] }, { accessFlags := 1, nameIndex := 78, descriptorIndex := 79, attributes := #[] }] 16433 32 #[] #[{ accessFlags := 16409, nameIndex := 5, descriptorIndex := 6, attributes := #[] }, { accessFlags := 16409, nameIndex := 9, descriptorIndex := 6, attributes := #[] }, { accessFlags := 16409, nameIndex := 12, descriptorIndex := 6, attributes := #[] }, { accessFlags := 16409, nameIndex := 15, descriptorIndex := 6, attributes := #[] }, { accessFlags := 16409, nameIndex := 18, descriptorIndex := 6, attributes := #[] }, { accessFlags := 16409, nameIndex := 21, descriptorIndex := 6, attributes := #[] }, { accessFlags := 18, nameIndex := 43, descriptorIndex := 44, attributes := #[] }, { accessFlags := 4122, nameIndex := 24, descriptorIndex := 25, attributes := #[] }])
  fields := #[{ name := "EQUAL", type := (.object "com/example/inline_monitor/inlinemonitor/model/Guard$Relation"), accessFlags := 16409, slot := 0, constantValue := 0 }, { name := "NOT_EQUAL", type := (.object "com/example/inline_monitor/inlinemonitor/model/Guard$Relation"), accessFlags := 16409, slot := 1, constantValue := 0 }, { name := "LESS", type := (.object "com/example/inline_monitor/inlinemonitor/model/Guard$Relation"), accessFlags := 16409, slot := 2, constantValue := 0 }, { name := "LESS_OR_EQUAL", type := (.object "com/example/inline_monitor/inlinemonitor/model/Guard$Relation"), accessFlags := 16409, slot := 3, constantValue := 0 }, { name := "GREATER", type := (.object "com/example/inline_monitor/inlinemonitor/model/Guard$Relation"), accessFlags := 16409, slot := 4, constantValue := 0 }, { name := "GREATER_OR_EQUAL", type := (.object "com/example/inline_monitor/inlinemonitor/model/Guard$Relation"), accessFlags := 16409, slot := 5, constantValue := 0 }, { name := "symbol", type := (.object "java/lang/String"), accessFlags := 18, slot := 3, constantValue := 0 }, { name := "$VALUES", type := (.array (.object "com/example/inline_monitor/inlinemonitor/model/Guard$Relation")), accessFlags := 4122, slot := 6, constantValue := 0 }]
  methods := #[k6m0, k6m1]
  instanceTypes := #[(.object "java/lang/String"), .int, .int, (.object "java/lang/String")]
  staticTypes := #[(.object "com/example/inline_monitor/inlinemonitor/model/Guard$Relation"), (.object "com/example/inline_monitor/inlinemonitor/model/Guard$Relation"), (.object "com/example/inline_monitor/inlinemonitor/model/Guard$Relation"), (.object "com/example/inline_monitor/inlinemonitor/model/Guard$Relation"), (.object "com/example/inline_monitor/inlinemonitor/model/Guard$Relation"), (.object "com/example/inline_monitor/inlinemonitor/model/Guard$Relation"), (.array (.object "com/example/inline_monitor/inlinemonitor/model/Guard$Relation"))]
  resolved := Array.replicate 91 none
  statics := some 0 }

def pool7 : Array CpInfo := pool [(2, .class_ 4), (1, u "java/lang/CharSequence"), (42, .class_ 48), (0, u "java/lang/CharSequence$1CodePointIterator"), (10, .class_ 60), (0, u "java/lang/CharSequence$1CharIterator"), (5, .class_ 67), (0, u "java/lang/Object")] 63

/-- java/lang/CharSequence -/
def k7 : Class := { plain "java/lang/CharSequence" (some 0) with
  accessFlags := 1537
  interfaces := #[]
  cf := some (fileOf pool7 2 #[.nestMembers #[47, 59]] #[] 1537 66 #[] #[])
  fields := #[]
  methods := #[]
  instanceTypes := #[]
  staticTypes := #[]
  resolved := Array.replicate 131 none
  statics := none }

def pool8 : Array CpInfo := pool [(1, .class_ 2), (0, u "java/lang/constant/ConstantDesc"), (0, .class_ 4), (0, u "java/lang/Object")] 32

/-- java/lang/constant/ConstantDesc -/
def k8 : Class := { plain "java/lang/constant/ConstantDesc" (some 0) with
  accessFlags := 1537
  interfaces := #[]
  cf := some (fileOf pool8 1 #[] #[] 1537 3 #[] #[])
  fields := #[]
  methods := #[]
  instanceTypes := #[]
  staticTypes := #[]
  resolved := Array.replicate 37 none
  statics := none }

def pool9 : Array CpInfo := pool [(2, .class_ 4), (1, u "java/lang/Object"), (0, u "<init>"), (0, u "()V"), (2, .fieldref 10 11), (0, .class_ 12), (0, .nameAndType 13 14), (0, u "java/lang/String"), (0, u "value"), (0, u "[B"), (0, .fieldref 10 16), (0, .nameAndType 17 18), (0, u "coder"), (0, u "B"), (2, u "hash"), (0, u "I"), (2, u "hashIsZero"), (0, u "Z"), (11, .fieldref 10 39), (0, .nameAndType 40 26), (0, u "COMPACT_STRINGS"), (66, .class_ 109), (1, u "java/lang/StringLatin1"), (32, u "()Z"), (220, u "([BI)C"), (27, u "(II)V"), (35, u "(I)C"), (64, .methodref 10 493), (0, .nameAndType 494 142), (0, u "isLatin1"), (0, .methodref 107 496), (0, .nameAndType 497 363), (0, u "charAt"), (3, u "checkIndex"), (73, .class_ 576), (0, u "java/lang/CharSequence"), (22, u "CASE_INSENSITIVE_ORDER"), (0, u "Ljava/util/Comparator;"), (452, .fieldref 1054 1055), (0, .class_ 1056), (0, .nameAndType 1057 1058), (0, u "jdk/internal/util/Preconditions"), (0, u "SIOOBE_FORMATTER"), (0, u "Ljava/util/function/BiFunction;"), (0, .methodref 1054 1060), (0, .nameAndType 501 1061), (0, u "(IILjava/util/function/BiFunction;)I"), (39, u "serialPersistentFields"), (0, u "[Ljava/io/ObjectStreamField;"), (0, .class_ 1104), (0, u "java/lang/String$CaseInsensitiveComparator"), (1, .class_ 1107), (0, u "java/io/Serializable"), (0, .class_ 1109), (0, u "java/lang/Comparable"), (0, .class_ 1111), (0, u "java/lang/constant/Constable"), (0, .class_ 1113), (0, u "java/lang/constant/ConstantDesc"), (2, u "serialVersionUID"), (0, u "J"), (3, u "REPL"), (0, u "C"), (2, u "LATIN1"), (1, u "UTF16")] 323

def k9m0 : Method := { name := "<init>", desc := "()V", sig := { parameters := [], returnType := none }, accessFlags := 1, code := none }
def k9c1 : Code := { maxStack := 2, maxLocals := 2, code := jdk_42_method_56_code, exceptionTable := #[], attributes := #[] }
def k9m1 : Method := { name := "charAt", desc := "(I)C", sig := { parameters := [.int], returnType := some .char }, accessFlags := 1, code := some k9c1 }
def k9c2 : Code := { maxStack := 1, maxLocals := 1, code := jdk_42_method_154_code, exceptionTable := #[], attributes := #[] }
def k9m2 : Method := { name := "isLatin1", desc := "()Z", sig := { parameters := [], returnType := some .boolean }, accessFlags := 0, code := some k9c2 }
def k9c3 : Code := { maxStack := 3, maxLocals := 2, code := jdk_42_method_155_code, exceptionTable := #[], attributes := #[] }
def k9m3 : Method := { name := "checkIndex", desc := "(II)V", sig := { parameters := [.int, .int], returnType := none }, accessFlags := 8, code := some k9c3 }
/-- java/lang/String -/
def k9 : Class := { plain "java/lang/String" (some 0) with
  accessFlags := 49
  interfaces := #[4, 3, 7, 2, 8]
  cf := some (fileOf pool9 10 #[.nestMembers #[1103]] #[{ accessFlags := 1, nameIndex := 5, descriptorIndex := 6, attributes := #[] }, { accessFlags := 1, nameIndex := 497, descriptorIndex := 427, attributes := #[] }, { accessFlags := 0, nameIndex := 494, descriptorIndex := 142, attributes := #[] }, { accessFlags := 8, nameIndex := 501, descriptorIndex := 391, attributes := #[] }] 49 2 #[1106, 1108, 575, 1110, 1112] #[{ accessFlags := 18, nameIndex := 13, descriptorIndex := 14, attributes := #[] }, { accessFlags := 18, nameIndex := 17, descriptorIndex := 18, attributes := #[] }, { accessFlags := 2, nameIndex := 21, descriptorIndex := 22, attributes := #[] }, { accessFlags := 2, nameIndex := 25, descriptorIndex := 26, attributes := #[] }, { accessFlags := 26, nameIndex := 1116, descriptorIndex := 1117, attributes := #[] }, { accessFlags := 24, nameIndex := 40, descriptorIndex := 26, attributes := #[] }, { accessFlags := 26, nameIndex := 1101, descriptorIndex := 1102, attributes := #[] }, { accessFlags := 26, nameIndex := 1121, descriptorIndex := 1122, attributes := #[] }, { accessFlags := 25, nameIndex := 599, descriptorIndex := 600, attributes := #[] }, { accessFlags := 24, nameIndex := 1125, descriptorIndex := 18, attributes := #[] }, { accessFlags := 24, nameIndex := 1127, descriptorIndex := 18, attributes := #[] }])
  fields := #[{ name := "value", type := (.array .byte), accessFlags := 18, slot := 0, constantValue := 0 }, { name := "coder", type := .byte, accessFlags := 18, slot := 1, constantValue := 0 }, { name := "hash", type := .int, accessFlags := 2, slot := 2, constantValue := 0 }, { name := "hashIsZero", type := .boolean, accessFlags := 2, slot := 3, constantValue := 0 }, { name := "serialVersionUID", type := .long, accessFlags := 26, slot := 0, constantValue := 0 }, { name := "COMPACT_STRINGS", type := .boolean, accessFlags := 24, slot := 1, constantValue := 0 }, { name := "serialPersistentFields", type := (.array (.object "java/io/ObjectStreamField")), accessFlags := 26, slot := 2, constantValue := 0 }, { name := "REPL", type := .char, accessFlags := 26, slot := 3, constantValue := 0 }, { name := "CASE_INSENSITIVE_ORDER", type := (.object "java/util/Comparator"), accessFlags := 25, slot := 4, constantValue := 0 }, { name := "LATIN1", type := .byte, accessFlags := 24, slot := 5, constantValue := 0 }, { name := "UTF16", type := .byte, accessFlags := 24, slot := 6, constantValue := 0 }]
  methods := #[k9m0, k9m1, k9m2, k9m3]
  instanceTypes := #[(.array .byte), .byte, .int, .boolean]
  staticTypes := #[.long, .boolean, (.array (.object "java/io/ObjectStreamField")), .char, (.object "java/util/Comparator"), .byte, .byte]
  resolved := Array.replicate 1451 none
  statics := some 1 }

def pool10 : Array CpInfo := pool [(1, .class_ 2), (0, u "java/lang/String"), (1, .class_ 6), (1, u "java/lang/Object"), (0, u "<init>"), (0, u "()V"), (0, .methodref 1 10), (0, .nameAndType 11 12), (0, u "checkIndex"), (0, u "(II)V"), (1, .class_ 16), (1, u "java/lang/StringLatin1"), (36, u "([BI)C"), (67, u "$assertionsDisabled"), (0, u "Z"), (98, .class_ 223), (1, u "java/lang/StringLatin1$LinesSpliterator"), (28, u "charAt"), (137, .class_ 391), (0, u "java/lang/StringLatin1$CharsSpliterator")] 3

def k10m0 : Method := { name := "<init>", desc := "()V", sig := { parameters := [], returnType := none }, accessFlags := 0, code := none }
def k10c1 : Code := { maxStack := 2, maxLocals := 2, code := jdk_43_method_2_code, exceptionTable := #[], attributes := #[] }
def k10m1 : Method := { name := "charAt", desc := "([BI)C", sig := { parameters := [(.array .byte), .int], returnType := some .char }, accessFlags := 9, code := some k10c1 }
/-- java/lang/StringLatin1 -/
def k10 : Class := { plain "java/lang/StringLatin1" (some 0) with
  accessFlags := 48
  interfaces := #[]
  cf := some (fileOf pool10 14 #[.nestMembers #[390, 221]] #[{ accessFlags := 0, nameIndex := 7, descriptorIndex := 8, attributes := #[] }, { accessFlags := 9, nameIndex := 252, descriptorIndex := 53, attributes := #[] }] 48 4 #[] #[{ accessFlags := 4120, nameIndex := 121, descriptorIndex := 122, attributes := #[] }])
  fields := #[{ name := "$assertionsDisabled", type := .boolean, accessFlags := 4120, slot := 0, constantValue := 0 }]
  methods := #[k10m0, k10m1]
  instanceTypes := #[]
  staticTypes := #[.boolean]
  resolved := Array.replicate 395 none
  statics := none }

def pool11 : Array CpInfo := pool [(2, .class_ 4), (1, u "java/lang/Object"), (0, u "<init>"), (0, u "()V"), (17, .class_ 26), (1, u "jdk/internal/util/Preconditions"), (6, u "checkIndex"), (21, .class_ 56), (0, u "jdk/internal/util/Preconditions$4"), (57, .class_ 115), (0, u "jdk/internal/util/Preconditions$1"), (7, u "SIOOBE_FORMATTER"), (0, u "Ljava/util/function/BiFunction;"), (0, .class_ 126), (0, u "jdk/internal/util/Preconditions$2"), (3, u "AIOOBE_FORMATTER"), (0, .class_ 132), (0, u "jdk/internal/util/Preconditions$3"), (3, u "IOOBE_FORMATTER"), (41, u "(IILjava/util/function/BiFunction;)I")] 15

def k11m0 : Method := { name := "<init>", desc := "()V", sig := { parameters := [], returnType := none }, accessFlags := 1, code := none }
def k11c1 : Code := { maxStack := 3, maxLocals := 3, code := jdk_41_method_11_code, exceptionTable := #[], attributes := #[] }
def k11m1 : Method := { name := "checkIndex", desc := "(IILjava/util/function/BiFunction;)I", sig := { parameters := [.int, .int, (.object "java/util/function/BiFunction")], returnType := some .int }, accessFlags := 9, code := some k11c1 }
/-- jdk/internal/util/Preconditions -/
def k11 : Class := { plain "jdk/internal/util/Preconditions" (some 0) with
  accessFlags := 33
  interfaces := #[]
  cf := some (fileOf pool11 24 #[.nestMembers #[55, 131, 125, 114]] #[{ accessFlags := 1, nameIndex := 5, descriptorIndex := 6, attributes := #[] }, { accessFlags := 9, nameIndex := 33, descriptorIndex := 178, attributes := #[] }] 33 2 #[] #[{ accessFlags := 25, nameIndex := 123, descriptorIndex := 124, attributes := #[] }, { accessFlags := 25, nameIndex := 130, descriptorIndex := 124, attributes := #[] }, { accessFlags := 25, nameIndex := 136, descriptorIndex := 124, attributes := #[] }])
  fields := #[{ name := "SIOOBE_FORMATTER", type := (.object "java/util/function/BiFunction"), accessFlags := 25, slot := 0, constantValue := 0 }, { name := "AIOOBE_FORMATTER", type := (.object "java/util/function/BiFunction"), accessFlags := 25, slot := 1, constantValue := 0 }, { name := "IOOBE_FORMATTER", type := (.object "java/util/function/BiFunction"), accessFlags := 25, slot := 2, constantValue := 0 }]
  methods := #[k11m0, k11m1]
  instanceTypes := #[]
  staticTypes := #[(.object "java/util/function/BiFunction"), (.object "java/util/function/BiFunction"), (.object "java/util/function/BiFunction")]
  resolved := Array.replicate 194 none
  statics := some 2 }

def pool12 : Array CpInfo := pool [(9, u "<init>"), (6, .class_ 18), (1, u "java/lang/Object"), (0, u "()V"), (1, .class_ 23), (1, u "jdk/internal/util/ArraysSupport"), (0, u "LOG2_ARRAY_LONG_INDEX_SCALE"), (0, u "I"), (2, u "U"), (0, u "Ljdk/internal/misc/Unsafe;"), (8, u "BIG_ENDIAN"), (0, u "Z"), (8, u "LOG2_BYTE_BIT_SIZE"), (4, u "LOG2_ARRAY_INT_INDEX_SCALE"), (54, u "JLA"), (0, u "Ljdk/internal/access/JavaLangAccess;"), (11, u "LOG2_ARRAY_BOOLEAN_INDEX_SCALE"), (9, u "LOG2_ARRAY_BYTE_INDEX_SCALE"), (5, u "LOG2_ARRAY_CHAR_INDEX_SCALE"), (5, u "LOG2_ARRAY_SHORT_INDEX_SCALE"), (18, u "LOG2_ARRAY_FLOAT_INDEX_SCALE"), (24, u "LOG2_ARRAY_DOUBLE_INDEX_SCALE"), (89, u "T_BOOLEAN"), (2, u "T_CHAR"), (1, u "T_FLOAT"), (1, u "T_DOUBLE"), (1, u "T_BYTE"), (1, u "T_SHORT"), (1, u "T_INT"), (1, u "T_LONG"), (1, u "SOFT_MAX_ARRAY_LENGTH")] 83

def k12m0 : Method := { name := "<init>", desc := "()V", sig := { parameters := [], returnType := none }, accessFlags := 2, code := none }
/-- jdk/internal/util/ArraysSupport -/
def k12 : Class := { plain "jdk/internal/util/ArraysSupport" (some 0) with
  accessFlags := 33
  interfaces := #[]
  cf := some (fileOf pool12 21 #[] #[{ accessFlags := 2, nameIndex := 9, descriptorIndex := 19, attributes := #[] }] 33 16 #[] #[{ accessFlags := 24, nameIndex := 28, descriptorIndex := 29, attributes := #[] }, { accessFlags := 26, nameIndex := 38, descriptorIndex := 39, attributes := #[] }, { accessFlags := 25, nameIndex := 121, descriptorIndex := 25, attributes := #[] }, { accessFlags := 25, nameIndex := 131, descriptorIndex := 25, attributes := #[] }, { accessFlags := 25, nameIndex := 137, descriptorIndex := 25, attributes := #[] }, { accessFlags := 25, nameIndex := 143, descriptorIndex := 25, attributes := #[] }, { accessFlags := 25, nameIndex := 53, descriptorIndex := 25, attributes := #[] }, { accessFlags := 25, nameIndex := 24, descriptorIndex := 25, attributes := #[] }, { accessFlags := 25, nameIndex := 162, descriptorIndex := 25, attributes := #[] }, { accessFlags := 25, nameIndex := 187, descriptorIndex := 25, attributes := #[] }, { accessFlags := 26, nameIndex := 48, descriptorIndex := 25, attributes := #[] }, { accessFlags := 25, nameIndex := 277, descriptorIndex := 25, attributes := #[] }, { accessFlags := 25, nameIndex := 280, descriptorIndex := 25, attributes := #[] }, { accessFlags := 25, nameIndex := 282, descriptorIndex := 25, attributes := #[] }, { accessFlags := 25, nameIndex := 284, descriptorIndex := 25, attributes := #[] }, { accessFlags := 25, nameIndex := 286, descriptorIndex := 25, attributes := #[] }, { accessFlags := 25, nameIndex := 288, descriptorIndex := 25, attributes := #[] }, { accessFlags := 25, nameIndex := 290, descriptorIndex := 25, attributes := #[] }, { accessFlags := 25, nameIndex := 292, descriptorIndex := 25, attributes := #[] }, { accessFlags := 26, nameIndex := 108, descriptorIndex := 109, attributes := #[] }, { accessFlags := 25, nameIndex := 294, descriptorIndex := 25, attributes := #[] }])
  fields := #[{ name := "U", type := (.object "jdk/internal/misc/Unsafe"), accessFlags := 24, slot := 0, constantValue := 0 }, { name := "BIG_ENDIAN", type := .boolean, accessFlags := 26, slot := 1, constantValue := 0 }, { name := "LOG2_ARRAY_BOOLEAN_INDEX_SCALE", type := .int, accessFlags := 25, slot := 2, constantValue := 0 }, { name := "LOG2_ARRAY_BYTE_INDEX_SCALE", type := .int, accessFlags := 25, slot := 3, constantValue := 0 }, { name := "LOG2_ARRAY_CHAR_INDEX_SCALE", type := .int, accessFlags := 25, slot := 4, constantValue := 0 }, { name := "LOG2_ARRAY_SHORT_INDEX_SCALE", type := .int, accessFlags := 25, slot := 5, constantValue := 0 }, { name := "LOG2_ARRAY_INT_INDEX_SCALE", type := .int, accessFlags := 25, slot := 6, constantValue := 0 }, { name := "LOG2_ARRAY_LONG_INDEX_SCALE", type := .int, accessFlags := 25, slot := 7, constantValue := 0 }, { name := "LOG2_ARRAY_FLOAT_INDEX_SCALE", type := .int, accessFlags := 25, slot := 8, constantValue := 0 }, { name := "LOG2_ARRAY_DOUBLE_INDEX_SCALE", type := .int, accessFlags := 25, slot := 9, constantValue := 0 }, { name := "LOG2_BYTE_BIT_SIZE", type := .int, accessFlags := 26, slot := 10, constantValue := 0 }, { name := "T_BOOLEAN", type := .int, accessFlags := 25, slot := 11, constantValue := 0 }, { name := "T_CHAR", type := .int, accessFlags := 25, slot := 12, constantValue := 0 }, { name := "T_FLOAT", type := .int, accessFlags := 25, slot := 13, constantValue := 0 }, { name := "T_DOUBLE", type := .int, accessFlags := 25, slot := 14, constantValue := 0 }, { name := "T_BYTE", type := .int, accessFlags := 25, slot := 15, constantValue := 0 }, { name := "T_SHORT", type := .int, accessFlags := 25, slot := 16, constantValue := 0 }, { name := "T_INT", type := .int, accessFlags := 25, slot := 17, constantValue := 0 }, { name := "T_LONG", type := .int, accessFlags := 25, slot := 18, constantValue := 0 }, { name := "JLA", type := (.object "jdk/internal/access/JavaLangAccess"), accessFlags := 26, slot := 19, constantValue := 0 }, { name := "SOFT_MAX_ARRAY_LENGTH", type := .int, accessFlags := 25, slot := 20, constantValue := 0 }]
  methods := #[k12m0]
  instanceTypes := #[]
  staticTypes := #[(.object "jdk/internal/misc/Unsafe"), .boolean, .int, .int, .int, .int, .int, .int, .int, .int, .int, .int, .int, .int, .int, .int, .int, .int, .int, (.object "jdk/internal/access/JavaLangAccess"), .int]
  resolved := Array.replicate 378 none
  statics := none }

def pool13 : Array CpInfo := pool [(1, u "java/lang/Cloneable"), (0, .class_ 1), (0, u "java/lang/Object"), (0, .class_ 3)] 3

/-- java/lang/Cloneable -/
def k13 : Class := { plain "java/lang/Cloneable" (some 0) with
  accessFlags := 1537
  interfaces := #[]
  cf := some (fileOf pool13 2 #[] #[] 1537 4 #[] #[])
  fields := #[]
  methods := #[]
  instanceTypes := #[]
  staticTypes := #[]
  resolved := Array.replicate 8 none
  statics := none }

/-- the primitive byte -/
def k14 : Class := { plain "byte" none with kind := .primitive 'B', accessFlags := 0x411 }
/-- [B -/
def k15 : Class := { plain "[B" (some 0) with kind := .array 14 .byte, interfaces := #[13, 4], accessFlags := 1041 }

/-- the primitive int -/
def k16 : Class := { plain "int" none with kind := .primitive 'I', accessFlags := 0x411 }
/-- [I -/
def k17 : Class := { plain "[I" (some 0) with kind := .array 16 .int, interfaces := #[13, 4], accessFlags := 1041 }

def heap : Heap := #[{ cls := 6, slots := #[.ref 5, .ref 8, .ref 11, .ref 14, .ref 17, .ref 20, .null], vm := .statics 6 },
  { cls := 9, slots := #[.long 0, .int 1, .null, .int 0, .null, .int 0, .int 0], vm := .statics 9 },
  { cls := 11, slots := #[.null, .null, .null], vm := .statics 11 },
  { cls := 15, slots := #[.int 61, .int 61], vm := .none },
  { cls := 9, slots := #[.ref 3, .int 0, .int 0, .int 0], vm := .none },
  { cls := 6, slots := #[.null, .int 0, .int 0, .ref 4], vm := .none },
  { cls := 15, slots := #[.int 33, .int 61], vm := .none },
  { cls := 9, slots := #[.ref 6, .int 0, .int 0, .int 0], vm := .none },
  { cls := 6, slots := #[.null, .int 1, .int 0, .ref 7], vm := .none },
  { cls := 15, slots := #[.int 60], vm := .none },
  { cls := 9, slots := #[.ref 9, .int 0, .int 0, .int 0], vm := .none },
  { cls := 6, slots := #[.null, .int 2, .int 0, .ref 10], vm := .none },
  { cls := 15, slots := #[.int 60, .int 61], vm := .none },
  { cls := 9, slots := #[.ref 12, .int 0, .int 0, .int 0], vm := .none },
  { cls := 6, slots := #[.null, .int 3, .int 0, .ref 13], vm := .none },
  { cls := 15, slots := #[.int 62], vm := .none },
  { cls := 9, slots := #[.ref 15, .int 0, .int 0, .int 0], vm := .none },
  { cls := 6, slots := #[.null, .int 4, .int 0, .ref 16], vm := .none },
  { cls := 15, slots := #[.int 62, .int 61], vm := .none },
  { cls := 9, slots := #[.ref 18, .int 0, .int 0, .int 0], vm := .none },
  { cls := 6, slots := #[.null, .int 5, .int 0, .ref 19], vm := .none }]
def classes : Array Class := #[k0, k1, k2, k3, k4, k5, k6, k7, k8, k9, k10, k11, k12, k13, k14, k15, k16, k17]
def interned : List (Array UInt16 × Addr) := []
def slotsUsed : Nat := 75
def theMethod : MethodId := ⟨1, 1⟩
def args0 : Array Value := #[.int 3]
def aboutOver (below : List Frame) : State where
  vm := { classes := classes, interned := interned.toArray }
  heap := heap
  slotsUsed := slotsUsed
  threads := #[{ frames := .invoking theMethod args0 :: below }]
def below0 : List Frame := [.native { method := ⟨0, 0⟩, args := #[] }]
def about1 : State := aboutOver below0
def p0 : Program := .bare "" "" ""
def e0 : Env := launch0.env 0 0 0
theorem w_frames : about1.frames = Frame.invoking theMethod args0 :: below0 := rfl
set_option maxRecDepth 65536 in
theorem w_args : argsFit about1.vm theMethod args0 = true := by decide +kernel
set_option maxRecDepth 65536 in
theorem w_heap : heapFits about1 = true := by decide +kernel
set_option maxRecDepth 65536 in
theorem w_runnable : about1.curStatus? = some .runnable := by decide +kernel
set_option maxRecDepth 65536 in
theorem w_alone : about1.alone = true := by decide +kernel
set_option maxRecDepth 65536 in
theorem w_named : about1.methodNamed? x = some theMethod := by decide +kernel
set_option maxRecDepth 65536 in
theorem w_hears : about1.hears theMethod below0 = true := by decide +kernel
set_option maxRecDepth 65536 in
theorem w_ripe : about1.ripe theMethod args0 below0 = true := by decide +kernel
theorem w_running : about1.status = .running := rfl
set_option maxRecDepth 65536 in
theorem w_room : about1.hasRoom e0.platform room_1 = true :=
  launch0.hasRoom_least _ room_1 (by decide +kernel) (by decide +kernel) (by decide +kernel) (by decide +kernel) (by decide +kernel) (by decide +kernel)
theorem allAtoms_all (ts : List Jvm.Cond) (a : Array Jvm.Value) (st : Jvm.State) : (allAtoms ts).before a st = ts.all (fun c => c.before a st) := by
  induction ts with
  | nil => rfl
  | cons c t ih =>
    show (Jvm.Cond.and c (allAtoms t)).before a st = _
    rw [Jvm.Cond.before_and, ih, List.all_cons]
def words1 : List Jvm.Cond := Jvm.Cond.code x code maxLocals ret :: tables_1
/-- a 'code' word, met by the world's own term for the bytes: nothing is compared byte by byte -/
theorem code_word {y : MethodName} {bytes : ByteArray} {mx : Nat} {rt : Option FieldType} {a : Array Value} {s : State} {m : MethodId} {meth : Method} {c : Code} (h1 : s.methodNamed? y = some m) (h2 : s.vm.method? m = some meth) (h3 : meth.code = some c) (h4 : c.code = bytes)
    (h5 : (c.maxLocals == mx && c.exceptionTable.isEmpty && decide (c.maxStack ≤ mostOperands) && decide (meth.sig.returnType = rt) && !meth.locks && decide (parseMethodDescriptor y.desc = some meth.sig)) = true) : (Jvm.Cond.code y bytes mx rt).before a s = true := by
  simp only [Bool.and_eq_true, beq_iff_eq, Bool.not_eq_true', decide_eq_true_eq] at h5
  obtain ⟨⟨⟨⟨⟨g1, g2⟩, g3⟩, g4⟩, g5⟩, g6⟩ := h5
  simp [Cond.before, Cond.holds, Cond.value, h1, h2, h3, h4, g1, g2, g3, g4, g5, g6]
def isCode : Jvm.Cond → Bool
  | .code _ _ _ _ => true
  | _ => false
theorem all_split {L : List Jvm.Cond} {P : Jvm.Cond → Bool} (h1 : L.all (fun c => isCode c || P c) = true) (h2 : ∀ c ∈ L.filter isCode, P c = true) : L.all P = true := by
  refine List.all_eq_true.mpr fun c hc => ?_
  have h := List.all_eq_true.mp h1 c hc
  rcases Bool.eq_false_or_eq_true (isCode c) with hi | hi
  · exact h2 c (List.mem_filter.mpr ⟨hc, hi⟩)
  · simpa [hi] using h
set_option maxRecDepth 65536 in
theorem w_c0 : (Jvm.Cond.code x code maxLocals ret).before args0 about1 = true := code_word (m := ⟨1, 1⟩) (meth := k1m1) (c := k1c1) (by decide +kernel) rfl rfl rfl (by decide +kernel)
set_option maxRecDepth 65536 in
theorem w_c1 : (Jvm.Cond.code ({ cls := "com/example/inline_monitor/inlinemonitor/model/Guard$Relation", name := "symbol", desc := "()Ljava/lang/String;" } : Jvm.MethodName) prog_35_method_4_code (1 : Nat) (Option.some (Jvm.ClassFile.FieldType.object "java/lang/String"))).before args0 about1 = true := code_word (m := ⟨6, 0⟩) (meth := k6m0) (c := k6c0) (by decide +kernel) rfl rfl rfl (by decide +kernel)
set_option maxRecDepth 65536 in
theorem w_c2 : (Jvm.Cond.code ({ cls := "java/lang/String", name := "charAt", desc := "(I)C" } : Jvm.MethodName) jdk_42_method_56_code (2 : Nat) (Option.some Jvm.ClassFile.FieldType.char)).before args0 about1 = true := code_word (m := ⟨9, 1⟩) (meth := k9m1) (c := k9c1) (by decide +kernel) rfl rfl rfl (by decide +kernel)
set_option maxRecDepth 65536 in
theorem w_c3 : (Jvm.Cond.code ({ cls := "java/lang/String", name := "isLatin1", desc := "()Z" } : Jvm.MethodName) jdk_42_method_154_code (1 : Nat) (Option.some Jvm.ClassFile.FieldType.boolean)).before args0 about1 = true := code_word (m := ⟨9, 2⟩) (meth := k9m2) (c := k9c2) (by decide +kernel) rfl rfl rfl (by decide +kernel)
set_option maxRecDepth 65536 in
theorem w_c4 : (Jvm.Cond.code ({ cls := "java/lang/StringLatin1", name := "charAt", desc := "([BI)C" } : Jvm.MethodName) jdk_43_method_2_code (2 : Nat) (Option.some Jvm.ClassFile.FieldType.char)).before args0 about1 = true := code_word (m := ⟨10, 1⟩) (meth := k10m1) (c := k10c1) (by decide +kernel) rfl rfl rfl (by decide +kernel)
set_option maxRecDepth 65536 in
theorem w_c5 : (Jvm.Cond.code ({ cls := "java/lang/String", name := "checkIndex", desc := "(II)V" } : Jvm.MethodName) jdk_42_method_155_code (2 : Nat) (Option.none : Option Jvm.ClassFile.FieldType)).before args0 about1 = true := code_word (m := ⟨9, 3⟩) (meth := k9m3) (c := k9c3) (by decide +kernel) rfl rfl rfl (by decide +kernel)
set_option maxRecDepth 65536 in
theorem w_c6 : (Jvm.Cond.code ({ cls := "jdk/internal/util/Preconditions", name := "checkIndex", desc := "(IILjava/util/function/BiFunction;)I" } : Jvm.MethodName) jdk_41_method_11_code (3 : Nat) (Option.some Jvm.ClassFile.FieldType.int)).before args0 about1 = true := code_word (m := ⟨11, 1⟩) (meth := k11m1) (c := k11c1) (by decide +kernel) rfl rfl rfl (by decide +kernel)
set_option maxRecDepth 65536 in
theorem w_c7 : (Jvm.Cond.code ({ cls := "com/example/inline_monitor/inlinemonitor/model/Guard$Relation", name := "isOrdering", desc := "()Z" } : Jvm.MethodName) prog_35_method_5_code (1 : Nat) (Option.some Jvm.ClassFile.FieldType.boolean)).before args0 about1 = true := code_word (m := ⟨6, 1⟩) (meth := k6m1) (c := k6c1) (by decide +kernel) rfl rfl rfl (by decide +kernel)
def codes1 : List Jvm.Cond := [Jvm.Cond.code x code maxLocals ret, Jvm.Cond.code ({ cls := "com/example/inline_monitor/inlinemonitor/model/Guard$Relation", name := "symbol", desc := "()Ljava/lang/String;" } : Jvm.MethodName) prog_35_method_4_code (1 : Nat) (Option.some (Jvm.ClassFile.FieldType.object "java/lang/String")), Jvm.Cond.code ({ cls := "java/lang/String", name := "charAt", desc := "(I)C" } : Jvm.MethodName) jdk_42_method_56_code (2 : Nat) (Option.some Jvm.ClassFile.FieldType.char), Jvm.Cond.code ({ cls := "java/lang/String", name := "isLatin1", desc := "()Z" } : Jvm.MethodName) jdk_42_method_154_code (1 : Nat) (Option.some Jvm.ClassFile.FieldType.boolean), Jvm.Cond.code ({ cls := "java/lang/StringLatin1", name := "charAt", desc := "([BI)C" } : Jvm.MethodName) jdk_43_method_2_code (2 : Nat) (Option.some Jvm.ClassFile.FieldType.char), Jvm.Cond.code ({ cls := "java/lang/String", name := "checkIndex", desc := "(II)V" } : Jvm.MethodName) jdk_42_method_155_code (2 : Nat) (Option.none : Option Jvm.ClassFile.FieldType), Jvm.Cond.code ({ cls := "jdk/internal/util/Preconditions", name := "checkIndex", desc := "(IILjava/util/function/BiFunction;)I" } : Jvm.MethodName) jdk_41_method_11_code (3 : Nat) (Option.some Jvm.ClassFile.FieldType.int), Jvm.Cond.code ({ cls := "com/example/inline_monitor/inlinemonitor/model/Guard$Relation", name := "isOrdering", desc := "()Z" } : Jvm.MethodName) prog_35_method_5_code (1 : Nat) (Option.some Jvm.ClassFile.FieldType.boolean)]
set_option maxRecDepth 65536 in
theorem codes_eq : words1.filter isCode = codes1 := rfl
theorem w_codes : ∀ c ∈ words1.filter isCode, c.before args0 about1 = true := by
  rw [codes_eq]
  intro c hc
  simp only [codes1, List.mem_cons, List.not_mem_nil, or_false] at hc
  rcases hc with rfl | rfl | rfl | rfl | rfl | rfl | rfl | rfl
  · exact w_c0
  · exact w_c1
  · exact w_c2
  · exact w_c3
  · exact w_c4
  · exact w_c5
  · exact w_c6
  · exact w_c7
set_option maxRecDepth 65536 in
theorem w_t1 : (words1.take 24).all (fun c => isCode c || c.before args0 about1) = true := by decide +kernel
set_option maxRecDepth 65536 in
theorem w_t2 : ((words1.drop 24).take 24).all (fun c => isCode c || c.before args0 about1) = true := by decide +kernel
set_option maxRecDepth 65536 in
theorem w_t3 : ((words1.drop 24).drop 24).all (fun c => isCode c || c.before args0 about1) = true := by decide +kernel
theorem w_tables : (allAtoms (Jvm.Cond.code x code maxLocals ret :: tables_1)).before args0 about1 = true := by
  rw [allAtoms_all]
  show words1.all (fun c => c.before args0 about1) = true
  refine all_split ?_ w_codes
  rw [← List.take_append_drop 24 words1, List.all_append, w_t1, ← List.take_append_drop 24 (words1.drop 24), List.all_append, w_t2, w_t3]
  rfl
set_option maxRecDepth 65536 in
theorem w_rest : rest_1_c.before args0 about1 = true := by decide +kernel
set_option maxRecDepth 65536 in
theorem w_case : (Jvm.Cond.and given_1 narrow_1).before args0 about1 = true := by decide +kernel
theorem w_applies : (headSpec (Jvm.Cond.code x code maxLocals ret :: tables_1) room_1).applies x e0.platform about1 = true :=
  (Spec.applies_iff w_frames).mpr ⟨w_running, w_runnable, w_alone, w_named, w_hears, w_ripe, w_room, w_tables⟩
theorem atStart : AtStart classFile x code maxLocals ret World_1 tables_1 room_1 Calls_1 rest_1 Pre_1 launch0 p0 e0 about1 theMethod args0 below0 :=
  ⟨lists_1, trivial, launch0.admits_env _ _ _, launch0.least_env, fairChoices_fair.cas, fairChoices_fair.clock, w_frames, w_args, w_heap, w_applies, trivial, w_rest, w_case⟩
end start1
theorem witness_1 : WitnessClaimed_1 := ⟨start1.p0, start1.e0, start1.about1, start1.theMethod, start1.args0, start1.below0, start1.atStart⟩
end Jvm.Pilot.@@N@@
