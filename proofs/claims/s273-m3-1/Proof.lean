import JvmDerived
import JvmDerived.Pilot.@@N@@Statement
import JvmDerived.Pilot.@@N@@Code
set_option linter.unusedVariables false
set_option linter.unusedSimpArgs false
namespace Jvm.RoadKit
open Sem ClassFile Op Lib Jvm.Stand Jvm.Free Jvm.LawKit
section New
variable {p : Program} {l : Launch} {e : Env} {R : Room} {s : State} {m : MethodId} {args : Array Value} {below : List Frame} {meth : Method} {c : Code} {T : State} {locs : List Loc} {cells slots : Nat}
theorem retI (X : Stand p l e R s m args below meth c T locs cells slots) (hx : p.tables.exec = Jvm.exec) {pc : Nat} {Ls : Array Slot} {z : Int32} {rest : List Value} (hret : meth.sig.returnType = some .int) (hd : decode c.code pc = .ok (.ireturn, 1)) {fs : List Frame}
    (hl : ∀ (f : JFrame) (acts : List Action), f.method = m → f.locked = none → f.entered = [] → (doReturn e (T.setTop f) acts (some (.int z))).1 = T.setFrames fs) : Steps p.tables e below (T.setTop (mkF m pc Ls (.int z :: rest))) (T.setFrames fs) := by
  have hm' : T.vm.method? m = some meth := X.method'
  have hn : narrow .int (.int z) = .int z := rfl
  show Steps p.tables e below (T.setTop { method := m, pc := pc, locals := Ls, stack := _ :: rest, locked := none }) _
  jvm_step X.here [X.here.top, hx, hd, hm', hret, hn]
  first | (intro acts; rw [hl _ acts rfl rfl rfl]) | rw [hl _ _ rfl rfl rfl]
  exact Steps.refl _
end New
end Jvm.RoadKit
namespace Jvm.Pilot.@@N@@
open Jvm Jvm.ClassFile Sem Op Lib Jvm.Free Jvm.Stand Jvm.LawKit Jvm.RoadKit Bundle Jvm.Pilot.@@N@@.Jvm.D
theorem own_eqint {t : Term} {n : Int32} {args : Array Value} {s : State} (h : (Cond.eq t (.int n)).value args s none s [] = some true) : t.eval args s none [] s = some (.int n) := by
  have hn : (Term.int n).eval args s none [] s = some (.int n) := rfl
  simp only [Cond.value] at h
  rw [hn] at h
  cases hv : t.eval args s none [] s with
  | none => simp [hv] at h
  | some v =>
    cases v with
    | int x => simp [hv] at h; rw [h]
    | _ => simp [hv] at h
theorem pn_0 : plainName "com/example/weaverbird/weaverbird/apps/Component$Kind" = true := by first | (simp [plainName, overriddenIn]; done) | decide +kernel
theorem d1_0 : decode prog_12_method_5_code 0 = .ok (.aload_n 0, 1) := by decide +kernel
theorem d1_1 : decode prog_12_method_5_code 1 = .ok (.getstatic 3, 3) := by decide +kernel
theorem d1_4 : decode prog_12_method_5_code 4 = .ok (.if_acmp .eq 10, 3) := by decide +kernel
theorem d1_7 : decode prog_12_method_5_code 7 = .ok (.aload_n 0, 1) := by decide +kernel
theorem d1_8 : decode prog_12_method_5_code 8 = .ok (.getstatic 7, 3) := by decide +kernel
theorem d1_11 : decode prog_12_method_5_code 11 = .ok (.if_acmp .ne 7, 3) := by decide +kernel
theorem d1_14 : decode prog_12_method_5_code 14 = .ok (.iconst 1, 1) := by decide +kernel
theorem d1_15 : decode prog_12_method_5_code 15 = .ok (.goto 4, 3) := by decide +kernel
theorem d1_18 : decode prog_12_method_5_code 18 = .ok (.iconst 0, 1) := by decide +kernel
theorem d1_19 : decode prog_12_method_5_code 19 = .ok (.ireturn, 1) := by decide +kernel
theorem ef_1 (m : MethodId) (x0 : Addr) : entryFrame m #[(.ref x0)] 1 = mkF m 0 #[.val (.ref x0)] [] := by first | (simp [entryFrame, mkF, argsToLocals, Value.category]; done) | rfl
def f1 (a1 : Addr) (w_ACTIVITY : Addr) (w_ACTIVITY_ALIAS : Addr) : Int32 := (if a1 = w_ACTIVITY then (1 : Int32) else (if a1 = w_ACTIVITY_ALIAS then (1 : Int32) else (0 : Int32)))
def Q1 (Z : State) (a1 : Addr) (w_ACTIVITY : Addr) (w_ACTIVITY_ALIAS : Addr) (h0 : Heap) (n0 : Nat) (v : Option Value) (h : Heap) (L : List Loc) : Prop := v = some (.int (f1 a1 w_ACTIVITY w_ACTIVITY_ALIAS)) ∧ Fr n0 L ∧ h = h0
set_option maxRecDepth 65536 in
set_option maxHeartbeats 40000000 in
theorem rm1 (l : Launch) (Z : State) (a0 : Array Value) (hw : ∀ d ∈ tables_1, d.before a0 Z = true) (ws : List Jvm.Cond) (a1 : Addr) (w_ACTIVITY : Addr) (w_ACTIVITY_ALIAS : Addr) (h0 : Heap) (n0 : Nat) (Z0 : n0 ≤ h0.size) (S_ACTIVITY : Sta Z h0 "com/example/weaverbird/weaverbird/apps/Component$Kind" "ACTIVITY" "Lcom/example/weaverbird/weaverbird/apps/Component$Kind;" (.ref w_ACTIVITY)) (S_ACTIVITY_ALIAS : Sta Z h0 "com/example/weaverbird/weaverbird/apps/Component$Kind" "ACTIVITY_ALIAS" "Lcom/example/weaverbird/weaverbird/apps/Component$Kind;" (.ref w_ACTIVITY_ALIAS)) :
    MetFree l (⟨"com/example/weaverbird/weaverbird/apps/Component$Kind", "isActivity", "()Z"⟩ : MethodName) (head1 (Jvm.Cond.code (⟨"com/example/weaverbird/weaverbird/apps/Component$Kind", "isActivity", "()Z"⟩ : MethodName) prog_12_method_5_code 1 (some .boolean) :: ws) ({ frames := 0, cells := 0, slots := 0, locals := 0 } : Room)) (fun a U => a = #[(.ref a1)] ∧ Z.Warmed39 U.vm ∧ U.heap = h0) (fun _ _ _ _ _ => True) (fun _ U o U' => ∃ v L, o = .returned v ∧ Q1 Z a1 w_ACTIVITY w_ACTIVITY_ALIAS h0 n0 v U'.heap L ∧ FrameEnd U o U' L ({ frames := 0, cells := 0, slots := 0, locals := 0 } : Room).cells ({ frames := 0, cells := 0, slots := 0, locals := 0 } : Room).slots) := by
  refine MetFree.of_bodySF (plainFor_of_name pn_0) hisR ?_
  intro p e s m args below meth c s₁ Bd hml0 hP hK
  obtain ⟨rfl, hZ, hh⟩ := hP
  have hx := Bd.exec
  have hby := Bd.bytes
  have hml : c.maxLocals = 1 := hml0
  have hown : s.vm.findClass "com/example/weaverbird/weaverbird/apps/Component$Kind" = some m.cls := findClass_of_methodNamed Bd.named
  have hnm := (name_of_methodNamed Bd.named Bd.method).1
  have X0 : Stand p l e ({ frames := 0, cells := 0, slots := 0, locals := 0 } : Room) s m #[(.ref a1)] below meth c s₁ [] 0 0 := Stand.of_body Bd
  have e0 : s₁.heap = h0 := by rw [← hh, Bd.state]; rfl
  have N0 := Fr.nil n0
  have pre0 : ∀ t, Steps p.tables e below (s₁.setTop (mkF m 0 #[.val (.ref a1)] [])) t → Steps p.tables e below (s₁.setTop (entryFrame m #[(.ref a1)] 1)) t := fun t k => castTop (ef_1 m a1) k
  obtain ⟨T2, X2, e2, st2⟩ := getS2 X0 hx hZ hown (host := "") (Or.inl (hw _ (List.mem_of_getElem? (i := 9) rfl))) Via.refl e0 S_ACTIVITY (g := (mkF m 1 #[.val (.ref a1)] [(.ref a1)])) rfl (hb hby d1_1)
  have pre1 : ∀ t, Steps p.tables e below (T2.setTop (mkF m 4 #[.val (.ref a1)] [(.ref w_ACTIVITY), (.ref a1)])) t → Steps p.tables e below (s₁.setTop (entryFrame m #[(.ref a1)] 1)) t := by
    intro t k
    refine pre0 t ?_
    show Steps p.tables e below (s₁.setTop (mkF m 0 #[.val (.ref a1)] [])) _
    refine XS.aloadN X0.here hx rfl (hb hby d1_0) rfl rfl ?_
    show Steps p.tables e below (s₁.setTop (mkF m 1 #[.val (.ref a1)] [(.ref a1)])) _
    refine st2 _ ?_
    exact k
  by_cases hc4 : a1 = w_ACTIVITY
  · have eq2 : (f1 a1 w_ACTIVITY w_ACTIVITY_ALIAS) = (1 : Int32) := by unfold f1; simp only [if_pos hc4]
    obtain ⟨fs, hr, hrun, hended, hW, hsame⟩ := X2.leave (v := some (.int (1 : Int32))) (fun h => by rw [Bd.returns] at h; cases h)
    refine ⟨_, _, pre1 _ ?_, hrun, hended, _, _, rfl, ?_, ⟨_, rfl⟩, hW, hsame.mono (by decide) (by decide)⟩
    · show Steps p.tables e below (T2.setTop (mkF m 4 #[.val (.ref a1)] [(.ref w_ACTIVITY), (.ref a1)])) _
      refine Jvm.RoadKit.acmp (g := (mkF m 4 #[.val (.ref a1)] [(.ref w_ACTIVITY), (.ref a1)])) X2 hx rfl rfl rfl (pc0 := 4) (pc' := 14) (same := true) rfl (hb hby d1_4) rfl (decide_eq_true (congrArg Value.ref hc4)) (by decide) (by decide) ?_
      show Steps p.tables e below (T2.setTop (mkF m 14 #[.val (.ref a1)] [])) _
      refine XS.iconst X2.here hx rfl (hb hby d1_14) ?_
      show Steps p.tables e below (T2.setTop (mkF m 15 #[.val (.ref a1)] [(.int (1 : Int32))])) _
      refine XS.goto X2.here hx rfl (pc0 := 15) (pc' := 19) rfl (hb hby d1_15) (by decide) (by decide) ?_
      show Steps p.tables e below (T2.setTop (mkF m 19 #[.val (.ref a1)] [(.int (1 : Int32))])) _
      exact retN X2 hx (t := .boolean) Bd.returns (by simp) (hb hby d1_19) hr
    · show Q1 Z a1 w_ACTIVITY w_ACTIVITY_ALIAS h0 n0 _ T2.heap _
      rw [e2]
      exact ⟨by rw [eq2], N0, rfl⟩
  · obtain ⟨T3, X3, e3, st3⟩ := getS2 X2 hx hZ hown (host := "") (Or.inl (hw _ (List.mem_of_getElem? (i := 12) rfl))) Via.refl e2 S_ACTIVITY_ALIAS (g := (mkF m 8 #[.val (.ref a1)] [(.ref a1)])) rfl (hb hby d1_8)
    have pre3 : ∀ t, Steps p.tables e below (T3.setTop (mkF m 11 #[.val (.ref a1)] [(.ref w_ACTIVITY_ALIAS), (.ref a1)])) t → Steps p.tables e below (s₁.setTop (entryFrame m #[(.ref a1)] 1)) t := by
      intro t k
      refine pre1 t ?_
      show Steps p.tables e below (T2.setTop (mkF m 4 #[.val (.ref a1)] [(.ref w_ACTIVITY), (.ref a1)])) _
      refine Jvm.RoadKit.acmp (g := (mkF m 4 #[.val (.ref a1)] [(.ref w_ACTIVITY), (.ref a1)])) X2 hx rfl rfl rfl (pc0 := 4) (pc' := 7) (same := false) rfl (hb hby d1_4) rfl (decide_eq_false fun q => hc4 (Value.ref.inj q)) (by decide) (by decide) ?_
      show Steps p.tables e below (T2.setTop (mkF m 7 #[.val (.ref a1)] [])) _
      refine XS.aloadN X2.here hx rfl (hb hby d1_7) rfl rfl ?_
      show Steps p.tables e below (T2.setTop (mkF m 8 #[.val (.ref a1)] [(.ref a1)])) _
      refine st3 _ ?_
      exact k
    by_cases hc11 : a1 = w_ACTIVITY_ALIAS
    · have eq4 : (f1 a1 w_ACTIVITY w_ACTIVITY_ALIAS) = (1 : Int32) := by unfold f1; simp only [if_neg hc4, if_pos hc11]
      obtain ⟨fs, hr, hrun, hended, hW, hsame⟩ := X3.leave (v := some (.int (1 : Int32))) (fun h => by rw [Bd.returns] at h; cases h)
      refine ⟨_, _, pre3 _ ?_, hrun, hended, _, _, rfl, ?_, ⟨_, rfl⟩, hW, hsame.mono (by decide) (by decide)⟩
      · show Steps p.tables e below (T3.setTop (mkF m 11 #[.val (.ref a1)] [(.ref w_ACTIVITY_ALIAS), (.ref a1)])) _
        refine Jvm.RoadKit.acmp (g := (mkF m 11 #[.val (.ref a1)] [(.ref w_ACTIVITY_ALIAS), (.ref a1)])) X3 hx rfl rfl rfl (pc0 := 11) (pc' := 14) (same := true) rfl (hb hby d1_11) rfl (decide_eq_true (congrArg Value.ref hc11)) (by decide) (by decide) ?_
        show Steps p.tables e below (T3.setTop (mkF m 14 #[.val (.ref a1)] [])) _
        refine XS.iconst X3.here hx rfl (hb hby d1_14) ?_
        show Steps p.tables e below (T3.setTop (mkF m 15 #[.val (.ref a1)] [(.int (1 : Int32))])) _
        refine XS.goto X3.here hx rfl (pc0 := 15) (pc' := 19) rfl (hb hby d1_15) (by decide) (by decide) ?_
        show Steps p.tables e below (T3.setTop (mkF m 19 #[.val (.ref a1)] [(.int (1 : Int32))])) _
        exact retN X3 hx (t := .boolean) Bd.returns (by simp) (hb hby d1_19) hr
      · show Q1 Z a1 w_ACTIVITY w_ACTIVITY_ALIAS h0 n0 _ T3.heap _
        rw [e3]
        exact ⟨by rw [eq4], N0, rfl⟩
    · have eq5 : (f1 a1 w_ACTIVITY w_ACTIVITY_ALIAS) = (0 : Int32) := by unfold f1; simp only [if_neg hc4, if_neg hc11]
      obtain ⟨fs, hr, hrun, hended, hW, hsame⟩ := X3.leave (v := some (.int (0 : Int32))) (fun h => by rw [Bd.returns] at h; cases h)
      refine ⟨_, _, pre3 _ ?_, hrun, hended, _, _, rfl, ?_, ⟨_, rfl⟩, hW, hsame.mono (by decide) (by decide)⟩
      · show Steps p.tables e below (T3.setTop (mkF m 11 #[.val (.ref a1)] [(.ref w_ACTIVITY_ALIAS), (.ref a1)])) _
        refine Jvm.RoadKit.acmp (g := (mkF m 11 #[.val (.ref a1)] [(.ref w_ACTIVITY_ALIAS), (.ref a1)])) X3 hx rfl rfl rfl (pc0 := 11) (pc' := 18) (same := false) rfl (hb hby d1_11) rfl (decide_eq_false fun q => hc11 (Value.ref.inj q)) (by decide) (by decide) ?_
        show Steps p.tables e below (T3.setTop (mkF m 18 #[.val (.ref a1)] [])) _
        refine XS.iconst X3.here hx rfl (hb hby d1_18) ?_
        show Steps p.tables e below (T3.setTop (mkF m 19 #[.val (.ref a1)] [(.int (0 : Int32))])) _
        exact retN X3 hx (t := .boolean) Bd.returns (by simp) (hb hby d1_19) hr
      · show Q1 Z a1 w_ACTIVITY w_ACTIVITY_ALIAS h0 n0 _ T3.heap _
        rw [e3]
        exact ⟨by rw [eq5], N0, rfl⟩
theorem pd_0 : parseMethodDescriptor "()Z" = some ⟨[], some .boolean⟩ := by decide +kernel
theorem pn_1 : plainName "com/example/weaverbird/weaverbird/apps/KindIsActivityPinLaw" = true := by first | (simp [plainName, overriddenIn]; done) | decide +kernel
theorem ef_0 (m : MethodId) (x0 : Int32) : entryFrame m #[(.int x0)] maxLocals = mkF m 0 #[.val (.int x0), .unset, .unset, .unset] [] := by first | (simp [entryFrame, mkF, argsToLocals, Value.category, maxLocals]; done) | rfl
def f0_v5 (p1 : Int32) (w_ACTIVITY : Addr) (w_RECEIVER : Addr) (w_ACTIVITY_ALIAS : Addr) (w_PROVIDER : Addr) (w_SERVICE : Addr) : Int32 := ((p1 &&& (2147483647 : Int32)) - ((p1 &&& (2147483647 : Int32)) / (5 : Int32)) * (5 : Int32))
def f0 (p1 : Int32) (w_ACTIVITY : Addr) (w_RECEIVER : Addr) (w_ACTIVITY_ALIAS : Addr) (w_PROVIDER : Addr) (w_SERVICE : Addr) : Int32 := (if (f0_v5 p1 w_ACTIVITY w_RECEIVER w_ACTIVITY_ALIAS w_PROVIDER w_SERVICE) = (0 : Int32) then (if (f1 w_ACTIVITY w_ACTIVITY w_ACTIVITY_ALIAS) = (1 : Int32) then (1 : Int32) else (0 : Int32)) else (if (f0_v5 p1 w_ACTIVITY w_RECEIVER w_ACTIVITY_ALIAS w_PROVIDER w_SERVICE) = (1 : Int32) then (if (f1 w_ACTIVITY_ALIAS w_ACTIVITY w_ACTIVITY_ALIAS) = (1 : Int32) then (1 : Int32) else (0 : Int32)) else (if (f0_v5 p1 w_ACTIVITY w_RECEIVER w_ACTIVITY_ALIAS w_PROVIDER w_SERVICE) = (2 : Int32) then (if (f1 w_SERVICE w_ACTIVITY w_ACTIVITY_ALIAS) = (0 : Int32) then (1 : Int32) else (0 : Int32)) else (if (f0_v5 p1 w_ACTIVITY w_RECEIVER w_ACTIVITY_ALIAS w_PROVIDER w_SERVICE) = (3 : Int32) then (if (f1 w_RECEIVER w_ACTIVITY w_ACTIVITY_ALIAS) = (0 : Int32) then (1 : Int32) else (0 : Int32)) else (if (f1 w_PROVIDER w_ACTIVITY w_ACTIVITY_ALIAS) = (0 : Int32) then (1 : Int32) else (0 : Int32))))))
def Q0 (Z : State) (p1 : Int32) (w_ACTIVITY : Addr) (w_RECEIVER : Addr) (w_ACTIVITY_ALIAS : Addr) (w_PROVIDER : Addr) (w_SERVICE : Addr) (h0 : Heap) (n0 : Nat) (v : Option Value) (h : Heap) (L : List Loc) : Prop := v = some (.int (f0 p1 w_ACTIVITY w_RECEIVER w_ACTIVITY_ALIAS w_PROVIDER w_SERVICE)) ∧ Fr n0 L ∧ True
set_option maxRecDepth 65536 in
set_option maxHeartbeats 40000000 in
theorem rm0 (l : Launch) (Z : State) (a0 : Array Value) (hw : ∀ d ∈ tables_1, d.before a0 Z = true) (ws : List Jvm.Cond) (p1 : Int32) (w_ACTIVITY : Addr) (w_RECEIVER : Addr) (w_ACTIVITY_ALIAS : Addr) (w_PROVIDER : Addr) (w_SERVICE : Addr) (h0 : Heap) (n0 : Nat) (Z0 : n0 ≤ h0.size) (S_ACTIVITY : Sta Z h0 "com/example/weaverbird/weaverbird/apps/Component$Kind" "ACTIVITY" "Lcom/example/weaverbird/weaverbird/apps/Component$Kind;" (.ref w_ACTIVITY)) (S_RECEIVER : Sta Z h0 "com/example/weaverbird/weaverbird/apps/Component$Kind" "RECEIVER" "Lcom/example/weaverbird/weaverbird/apps/Component$Kind;" (.ref w_RECEIVER)) (S_ACTIVITY_ALIAS : Sta Z h0 "com/example/weaverbird/weaverbird/apps/Component$Kind" "ACTIVITY_ALIAS" "Lcom/example/weaverbird/weaverbird/apps/Component$Kind;" (.ref w_ACTIVITY_ALIAS)) (S_PROVIDER : Sta Z h0 "com/example/weaverbird/weaverbird/apps/Component$Kind" "PROVIDER" "Lcom/example/weaverbird/weaverbird/apps/Component$Kind;" (.ref w_PROVIDER)) (S_SERVICE : Sta Z h0 "com/example/weaverbird/weaverbird/apps/Component$Kind" "SERVICE" "Lcom/example/weaverbird/weaverbird/apps/Component$Kind;" (.ref w_SERVICE)) (E_w_ACTIVITY : Exa Z h0 w_ACTIVITY "com/example/weaverbird/weaverbird/apps/Component$Kind") (E_w_RECEIVER : Exa Z h0 w_RECEIVER "com/example/weaverbird/weaverbird/apps/Component$Kind") (E_w_ACTIVITY_ALIAS : Exa Z h0 w_ACTIVITY_ALIAS "com/example/weaverbird/weaverbird/apps/Component$Kind") (E_w_PROVIDER : Exa Z h0 w_PROVIDER "com/example/weaverbird/weaverbird/apps/Component$Kind") (E_w_SERVICE : Exa Z h0 w_SERVICE "com/example/weaverbird/weaverbird/apps/Component$Kind") :
    MetFree l x (head1 (Jvm.Cond.code x code maxLocals ret :: ws) room_1) (fun a U => a = #[(.int p1)] ∧ Z.Warmed39 U.vm ∧ U.heap = h0) (fun _ _ _ _ _ => True) (fun _ U o U' => ∃ v L, o = .returned v ∧ Q0 Z p1 w_ACTIVITY w_RECEIVER w_ACTIVITY_ALIAS w_PROVIDER w_SERVICE h0 n0 v U'.heap L ∧ FrameEnd U o U' L room_1.cells room_1.slots) := by
  refine MetFree.of_bodySF (plainFor_of_name pn_1) hisR ?_
  intro p e s m args below meth c s₁ Bd hml0 hP hK
  obtain ⟨rfl, hZ, hh⟩ := hP
  have hx := Bd.exec
  have hby := Bd.bytes
  have hml : c.maxLocals = 4 := hml0
  have hown : s.vm.findClass "com/example/weaverbird/weaverbird/apps/KindIsActivityPinLaw" = some m.cls := findClass_of_methodNamed Bd.named
  have hnm := (name_of_methodNamed Bd.named Bd.method).1
  have X0 : Stand p l e room_1 s m #[(.int p1)] below meth c s₁ [] 0 0 := Stand.of_body Bd
  have e0 : s₁.heap = h0 := by rw [← hh, Bd.state]; rfl
  have N0 := Fr.nil n0
  have pre0 : ∀ t, Steps p.tables e below (s₁.setTop (mkF m 0 #[.val (.int p1), .unset, .unset, .unset] [])) t → Steps p.tables e below (s₁.setTop (entryFrame m #[(.int p1)] maxLocals)) t := fun t k => castTop (ef_0 m p1) k
  have pre1 : ∀ t, Steps p.tables e below (s₁.setTop (mkF m 8 #[.val (.int p1), .val (.int (f0_v5 p1 w_ACTIVITY w_RECEIVER w_ACTIVITY_ALIAS w_PROVIDER w_SERVICE)), .unset, .unset] [(.int (f0_v5 p1 w_ACTIVITY w_RECEIVER w_ACTIVITY_ALIAS w_PROVIDER w_SERVICE))])) t → Steps p.tables e below (s₁.setTop (entryFrame m #[(.int p1)] maxLocals)) t := by
    intro t k
    refine pre0 t ?_
    show Steps p.tables e below (s₁.setTop (mkF m 0 #[.val (.int p1), .unset, .unset, .unset] [])) _
    refine XS.iloadN X0.here hx rfl (hb hby at_0) rfl ?_
    show Steps p.tables e below (s₁.setTop (mkF m 1 #[.val (.int p1), .unset, .unset, .unset] [(.int p1)])) _
    refine X0.ldcInt hx hown (mvT hZ (hw _ (List.mem_of_getElem? (i := 0) rfl))) (g := (mkF m 1 #[.val (.int p1), .unset, .unset, .unset] [(.int p1)])) rfl (hb hby at_1) _ ?_
    show Steps p.tables e below (s₁.setTop (mkF m 3 #[.val (.int p1), .unset, .unset, .unset] [(.int (2147483647 : Int32)), (.int p1)])) _
    refine XS.iand X0.here hx rfl (hb hby at_3) rfl ?_
    show Steps p.tables e below (s₁.setTop (mkF m 4 #[.val (.int p1), .unset, .unset, .unset] [(.int (p1 &&& (2147483647 : Int32)))])) _
    refine XS.iconst X0.here hx rfl (hb hby at_4) ?_
    show Steps p.tables e below (s₁.setTop (mkF m 5 #[.val (.int p1), .unset, .unset, .unset] [(.int (5 : Int32)), (.int (p1 &&& (2147483647 : Int32)))])) _
    refine XS.irem X0.here hx rfl (hb hby at_5) rfl (by decide) ?_
    show Steps p.tables e below (s₁.setTop (mkF m 6 #[.val (.int p1), .unset, .unset, .unset] [(.int (f0_v5 p1 w_ACTIVITY w_RECEIVER w_ACTIVITY_ALIAS w_PROVIDER w_SERVICE))])) _
    refine XS.istoreN X0.here hx rfl (hb hby at_6) rfl (l' := #[.val (.int p1), .val (.int (f0_v5 p1 w_ACTIVITY w_RECEIVER w_ACTIVITY_ALIAS w_PROVIDER w_SERVICE)), .unset, .unset]) rfl ?_
    show Steps p.tables e below (s₁.setTop (mkF m 7 #[.val (.int p1), .val (.int (f0_v5 p1 w_ACTIVITY w_RECEIVER w_ACTIVITY_ALIAS w_PROVIDER w_SERVICE)), .unset, .unset] [])) _
    refine XS.iloadN X0.here hx rfl (hb hby at_7) rfl ?_
    exact k
  by_cases hc8 : (f0_v5 p1 w_ACTIVITY w_RECEIVER w_ACTIVITY_ALIAS w_PROVIDER w_SERVICE) = (0 : Int32)
  · obtain ⟨T7, X7, e7, st7⟩ := getS2 X0 hx hZ hown (host := "") (Or.inl (hw _ (List.mem_of_getElem? (i := 1) rfl))) Via.refl e0 S_ACTIVITY (g := (mkF m 11 #[.val (.int p1), .val (.int (f0_v5 p1 w_ACTIVITY w_RECEIVER w_ACTIVITY_ALIAS w_PROVIDER w_SERVICE)), .unset, .unset] [])) rfl (hb hby at_11)
    obtain ⟨cq8, kq8, q8a, q8b, q8c⟩ := isOf hZ e7 E_w_ACTIVITY
    obtain ⟨_, _, ⟨T8, L8, k8, n8⟩, -, X8, ⟨Lc8, hQ8, l8, y8, z8⟩, st8⟩ := X7.virtualBack hx (y := (⟨"com/example/weaverbird/weaverbird/apps/Component$Kind", "isActivity", "()Z"⟩ : MethodName)) (z := (⟨"com/example/weaverbird/weaverbird/apps/Component$Kind", "isActivity", "()Z"⟩ : MethodName)) hown (mvT hZ (hw _ (List.mem_of_getElem? (i := 4) rfl))) (mvT hZ (hw _ (List.mem_of_getElem? (i := 5) rfl))) (notFace_of_selects (args := #[]) (mvT hZ (hw _ (List.mem_of_getElem? (i := 7) rfl)))) (mvT hZ (hw _ (List.mem_of_getElem? (i := 7) rfl))) (mvT hZ (hw _ (List.mem_of_getElem? (i := 6) rfl))) (by decide) (backOf (W := 0) (rm1 l Z a0 hw [] w_ACTIVITY w_ACTIVITY w_ACTIVITY_ALIAS h0 n0 Z0 S_ACTIVITY S_ACTIVITY_ALIAS) hZ (hw _ (List.mem_of_getElem? (i := 8) rfl)) (hw _ (List.mem_of_getElem? (i := 2) rfl)) (by decide) (by decide)) q8a q8c (g := (mkF m 69 #[.val (.int p1), .val (.int (f0_v5 p1 w_ACTIVITY w_RECEIVER w_ACTIVITY_ALIAS w_PROVIDER w_SERVICE)), .val (.ref w_ACTIVITY), .val (.int (1 : Int32))] [(.ref w_ACTIVITY)])) rfl (by rw [hml]; rfl) (Steps.refl _) (argsL := []) (rest := []) (lenOf pd_0 rfl) rfl (by show 2 * 0 + _ ≤ _; exact Nat.le_of_eq rfl) (hb hby at_69) (fun _ _ => ⟨rfl, e7, (by decide : 0 + 0 ≤ _), (by decide : 0 + 0 ≤ _)⟩)
    dsimp only [Pt.U, Pt.locs, Pt.cells, Pt.slots] at X8 l8 y8 z8 st8 hQ8
    subst l8 y8 z8
    obtain ⟨rfl, N8q, e8⟩ := hQ8
    have N8 := Fr.app N0 N8q
    have pre2 : ∀ t, Steps p.tables e below (T8.setTop (mkF m 73 #[.val (.int p1), .val (.int (f0_v5 p1 w_ACTIVITY w_RECEIVER w_ACTIVITY_ALIAS w_PROVIDER w_SERVICE)), .val (.ref w_ACTIVITY), .val (.int (1 : Int32))] [(.int (1 : Int32)), (.int (f1 w_ACTIVITY w_ACTIVITY w_ACTIVITY_ALIAS))])) t → Steps p.tables e below (s₁.setTop (entryFrame m #[(.int p1)] maxLocals)) t := by
      intro t k
      refine pre1 t ?_
      show Steps p.tables e below (s₁.setTop (mkF m 8 #[.val (.int p1), .val (.int (f0_v5 p1 w_ACTIVITY w_RECEIVER w_ACTIVITY_ALIAS w_PROVIDER w_SERVICE)), .unset, .unset] [(.int (f0_v5 p1 w_ACTIVITY w_RECEIVER w_ACTIVITY_ALIAS w_PROVIDER w_SERVICE))])) _
      refine XS.ifNo X0.here hx rfl (hb hby at_8) rfl ((if0 _ _).trans (teq hc8).2) ?_
      show Steps p.tables e below (s₁.setTop (mkF m 11 #[.val (.int p1), .val (.int (f0_v5 p1 w_ACTIVITY w_RECEIVER w_ACTIVITY_ALIAS w_PROVIDER w_SERVICE)), .unset, .unset] [])) _
      refine st7 _ ?_
      show Steps p.tables e below (T7.setTop (mkF m 14 #[.val (.int p1), .val (.int (f0_v5 p1 w_ACTIVITY w_RECEIVER w_ACTIVITY_ALIAS w_PROVIDER w_SERVICE)), .unset, .unset] [(.ref w_ACTIVITY)])) _
      refine XS.astoreN X7.here hx rfl (hb hby at_14) rfl rfl (l' := #[.val (.int p1), .val (.int (f0_v5 p1 w_ACTIVITY w_RECEIVER w_ACTIVITY_ALIAS w_PROVIDER w_SERVICE)), .val (.ref w_ACTIVITY), .unset]) rfl ?_
      show Steps p.tables e below (T7.setTop (mkF m 15 #[.val (.int p1), .val (.int (f0_v5 p1 w_ACTIVITY w_RECEIVER w_ACTIVITY_ALIAS w_PROVIDER w_SERVICE)), .val (.ref w_ACTIVITY), .unset] [])) _
      refine XS.iconst X7.here hx rfl (hb hby at_15) ?_
      show Steps p.tables e below (T7.setTop (mkF m 16 #[.val (.int p1), .val (.int (f0_v5 p1 w_ACTIVITY w_RECEIVER w_ACTIVITY_ALIAS w_PROVIDER w_SERVICE)), .val (.ref w_ACTIVITY), .unset] [(.int (1 : Int32))])) _
      refine XS.istoreN X7.here hx rfl (hb hby at_16) rfl (l' := #[.val (.int p1), .val (.int (f0_v5 p1 w_ACTIVITY w_RECEIVER w_ACTIVITY_ALIAS w_PROVIDER w_SERVICE)), .val (.ref w_ACTIVITY), .val (.int (1 : Int32))]) rfl ?_
      show Steps p.tables e below (T7.setTop (mkF m 17 #[.val (.int p1), .val (.int (f0_v5 p1 w_ACTIVITY w_RECEIVER w_ACTIVITY_ALIAS w_PROVIDER w_SERVICE)), .val (.ref w_ACTIVITY), .val (.int (1 : Int32))] [])) _
      refine XS.goto X7.here hx rfl (pc0 := 17) (pc' := 68) rfl (hb hby at_17) (by decide) (by decide) ?_
      show Steps p.tables e below (T7.setTop (mkF m 68 #[.val (.int p1), .val (.int (f0_v5 p1 w_ACTIVITY w_RECEIVER w_ACTIVITY_ALIAS w_PROVIDER w_SERVICE)), .val (.ref w_ACTIVITY), .val (.int (1 : Int32))] [])) _
      refine XS.aloadN X7.here hx rfl (hb hby at_68) rfl rfl ?_
      show Steps p.tables e below (T7.setTop (mkF m 69 #[.val (.int p1), .val (.int (f0_v5 p1 w_ACTIVITY w_RECEIVER w_ACTIVITY_ALIAS w_PROVIDER w_SERVICE)), .val (.ref w_ACTIVITY), .val (.int (1 : Int32))] [(.ref w_ACTIVITY)])) _
      refine st8.trans ?_
      show Steps p.tables e below (T8.setTop (mkF m 72 #[.val (.int p1), .val (.int (f0_v5 p1 w_ACTIVITY w_RECEIVER w_ACTIVITY_ALIAS w_PROVIDER w_SERVICE)), .val (.ref w_ACTIVITY), .val (.int (1 : Int32))] [(.int (f1 w_ACTIVITY w_ACTIVITY w_ACTIVITY_ALIAS))])) _
      refine XS.iloadN X8.here hx rfl (hb hby at_72) rfl ?_
      exact k
    by_cases hc73 : (f1 w_ACTIVITY w_ACTIVITY w_ACTIVITY_ALIAS) = (1 : Int32)
    · have eq3 : (f0 p1 w_ACTIVITY w_RECEIVER w_ACTIVITY_ALIAS w_PROVIDER w_SERVICE) = (1 : Int32) := by unfold f0; simp only [if_pos hc8, if_pos hc73]
      obtain ⟨fs, hr, hrun, hended, hW, hsame⟩ := X8.leave (v := some (.int (1 : Int32))) (fun h => by rw [Bd.returns] at h; cases h)
      refine ⟨_, _, pre2 _ ?_, hrun, hended, _, _, rfl, ?_, ⟨_, rfl⟩, hW, hsame.mono (by decide) (by decide)⟩
      · show Steps p.tables e below (T8.setTop (mkF m 73 #[.val (.int p1), .val (.int (f0_v5 p1 w_ACTIVITY w_RECEIVER w_ACTIVITY_ALIAS w_PROVIDER w_SERVICE)), .val (.ref w_ACTIVITY), .val (.int (1 : Int32))] [(.int (1 : Int32)), (.int (f1 w_ACTIVITY w_ACTIVITY w_ACTIVITY_ALIAS))])) _
        refine XS.icmpNo X8.here hx rfl (hb hby at_73) rfl (teq hc73).2 ?_
        show Steps p.tables e below (T8.setTop (mkF m 76 #[.val (.int p1), .val (.int (f0_v5 p1 w_ACTIVITY w_RECEIVER w_ACTIVITY_ALIAS w_PROVIDER w_SERVICE)), .val (.ref w_ACTIVITY), .val (.int (1 : Int32))] [])) _
        refine XS.iconst X8.here hx rfl (hb hby at_76) ?_
        show Steps p.tables e below (T8.setTop (mkF m 77 #[.val (.int p1), .val (.int (f0_v5 p1 w_ACTIVITY w_RECEIVER w_ACTIVITY_ALIAS w_PROVIDER w_SERVICE)), .val (.ref w_ACTIVITY), .val (.int (1 : Int32))] [(.int (1 : Int32))])) _
        refine XS.goto X8.here hx rfl (pc0 := 77) (pc' := 81) rfl (hb hby at_77) (by decide) (by decide) ?_
        show Steps p.tables e below (T8.setTop (mkF m 81 #[.val (.int p1), .val (.int (f0_v5 p1 w_ACTIVITY w_RECEIVER w_ACTIVITY_ALIAS w_PROVIDER w_SERVICE)), .val (.ref w_ACTIVITY), .val (.int (1 : Int32))] [(.int (1 : Int32))])) _
        exact retN X8 hx (t := .boolean) Bd.returns (by simp) (hb hby at_81) hr
      · show Q0 Z p1 w_ACTIVITY w_RECEIVER w_ACTIVITY_ALIAS w_PROVIDER w_SERVICE h0 n0 _ T8.heap _
        rw [e8]
        exact ⟨by rw [eq3], N8, trivial⟩
    · have eq4 : (f0 p1 w_ACTIVITY w_RECEIVER w_ACTIVITY_ALIAS w_PROVIDER w_SERVICE) = (0 : Int32) := by unfold f0; simp only [if_pos hc8, if_neg hc73]
      obtain ⟨fs, hr, hrun, hended, hW, hsame⟩ := X8.leave (v := some (.int (0 : Int32))) (fun h => by rw [Bd.returns] at h; cases h)
      refine ⟨_, _, pre2 _ ?_, hrun, hended, _, _, rfl, ?_, ⟨_, rfl⟩, hW, hsame.mono (by decide) (by decide)⟩
      · show Steps p.tables e below (T8.setTop (mkF m 73 #[.val (.int p1), .val (.int (f0_v5 p1 w_ACTIVITY w_RECEIVER w_ACTIVITY_ALIAS w_PROVIDER w_SERVICE)), .val (.ref w_ACTIVITY), .val (.int (1 : Int32))] [(.int (1 : Int32)), (.int (f1 w_ACTIVITY w_ACTIVITY w_ACTIVITY_ALIAS))])) _
        refine XS.icmpYes X8.here hx rfl (pc0 := 73) (pc' := 80) rfl (hb hby at_73) rfl (feq hc73).2 (by decide) (by decide) ?_
        show Steps p.tables e below (T8.setTop (mkF m 80 #[.val (.int p1), .val (.int (f0_v5 p1 w_ACTIVITY w_RECEIVER w_ACTIVITY_ALIAS w_PROVIDER w_SERVICE)), .val (.ref w_ACTIVITY), .val (.int (1 : Int32))] [])) _
        refine XS.iconst X8.here hx rfl (hb hby at_80) ?_
        show Steps p.tables e below (T8.setTop (mkF m 81 #[.val (.int p1), .val (.int (f0_v5 p1 w_ACTIVITY w_RECEIVER w_ACTIVITY_ALIAS w_PROVIDER w_SERVICE)), .val (.ref w_ACTIVITY), .val (.int (1 : Int32))] [(.int (0 : Int32))])) _
        exact retN X8 hx (t := .boolean) Bd.returns (by simp) (hb hby at_81) hr
      · show Q0 Z p1 w_ACTIVITY w_RECEIVER w_ACTIVITY_ALIAS w_PROVIDER w_SERVICE h0 n0 _ T8.heap _
        rw [e8]
        exact ⟨by rw [eq4], N8, trivial⟩
  · have pre5 : ∀ t, Steps p.tables e below (s₁.setTop (mkF m 22 #[.val (.int p1), .val (.int (f0_v5 p1 w_ACTIVITY w_RECEIVER w_ACTIVITY_ALIAS w_PROVIDER w_SERVICE)), .unset, .unset] [(.int (1 : Int32)), (.int (f0_v5 p1 w_ACTIVITY w_RECEIVER w_ACTIVITY_ALIAS w_PROVIDER w_SERVICE))])) t → Steps p.tables e below (s₁.setTop (entryFrame m #[(.int p1)] maxLocals)) t := by
      intro t k
      refine pre1 t ?_
      show Steps p.tables e below (s₁.setTop (mkF m 8 #[.val (.int p1), .val (.int (f0_v5 p1 w_ACTIVITY w_RECEIVER w_ACTIVITY_ALIAS w_PROVIDER w_SERVICE)), .unset, .unset] [(.int (f0_v5 p1 w_ACTIVITY w_RECEIVER w_ACTIVITY_ALIAS w_PROVIDER w_SERVICE))])) _
      refine XS.ifYes X0.here hx rfl (pc0 := 8) (pc' := 20) rfl (hb hby at_8) rfl ((if0 _ _).trans (feq hc8).2) (by decide) (by decide) ?_
      show Steps p.tables e below (s₁.setTop (mkF m 20 #[.val (.int p1), .val (.int (f0_v5 p1 w_ACTIVITY w_RECEIVER w_ACTIVITY_ALIAS w_PROVIDER w_SERVICE)), .unset, .unset] [])) _
      refine XS.iloadN X0.here hx rfl (hb hby at_20) rfl ?_
      show Steps p.tables e below (s₁.setTop (mkF m 21 #[.val (.int p1), .val (.int (f0_v5 p1 w_ACTIVITY w_RECEIVER w_ACTIVITY_ALIAS w_PROVIDER w_SERVICE)), .unset, .unset] [(.int (f0_v5 p1 w_ACTIVITY w_RECEIVER w_ACTIVITY_ALIAS w_PROVIDER w_SERVICE))])) _
      refine XS.iconst X0.here hx rfl (hb hby at_21) ?_
      exact k
    by_cases hc22 : (f0_v5 p1 w_ACTIVITY w_RECEIVER w_ACTIVITY_ALIAS w_PROVIDER w_SERVICE) = (1 : Int32)
    · obtain ⟨T13, X13, e13, st13⟩ := getS2 X0 hx hZ hown (host := "") (Or.inl (hw _ (List.mem_of_getElem? (i := 14) rfl))) Via.refl e0 S_ACTIVITY_ALIAS (g := (mkF m 25 #[.val (.int p1), .val (.int (f0_v5 p1 w_ACTIVITY w_RECEIVER w_ACTIVITY_ALIAS w_PROVIDER w_SERVICE)), .unset, .unset] [])) rfl (hb hby at_25)
      obtain ⟨cq14, kq14, q14a, q14b, q14c⟩ := isOf hZ e13 E_w_ACTIVITY_ALIAS
      obtain ⟨_, _, ⟨T14, L14, k14, n14⟩, -, X14, ⟨Lc14, hQ14, l14, y14, z14⟩, st14⟩ := X13.virtualBack hx (y := (⟨"com/example/weaverbird/weaverbird/apps/Component$Kind", "isActivity", "()Z"⟩ : MethodName)) (z := (⟨"com/example/weaverbird/weaverbird/apps/Component$Kind", "isActivity", "()Z"⟩ : MethodName)) hown (mvT hZ (hw _ (List.mem_of_getElem? (i := 4) rfl))) (mvT hZ (hw _ (List.mem_of_getElem? (i := 5) rfl))) (notFace_of_selects (args := #[]) (mvT hZ (hw _ (List.mem_of_getElem? (i := 7) rfl)))) (mvT hZ (hw _ (List.mem_of_getElem? (i := 7) rfl))) (mvT hZ (hw _ (List.mem_of_getElem? (i := 6) rfl))) (by decide) (backOf (W := 0) (rm1 l Z a0 hw [] w_ACTIVITY_ALIAS w_ACTIVITY w_ACTIVITY_ALIAS h0 n0 Z0 S_ACTIVITY S_ACTIVITY_ALIAS) hZ (hw _ (List.mem_of_getElem? (i := 8) rfl)) (hw _ (List.mem_of_getElem? (i := 2) rfl)) (by decide) (by decide)) q14a q14c (g := (mkF m 69 #[.val (.int p1), .val (.int (f0_v5 p1 w_ACTIVITY w_RECEIVER w_ACTIVITY_ALIAS w_PROVIDER w_SERVICE)), .val (.ref w_ACTIVITY_ALIAS), .val (.int (1 : Int32))] [(.ref w_ACTIVITY_ALIAS)])) rfl (by rw [hml]; rfl) (Steps.refl _) (argsL := []) (rest := []) (lenOf pd_0 rfl) rfl (by show 2 * 0 + _ ≤ _; exact Nat.le_of_eq rfl) (hb hby at_69) (fun _ _ => ⟨rfl, e13, (by decide : 0 + 0 ≤ _), (by decide : 0 + 0 ≤ _)⟩)
      dsimp only [Pt.U, Pt.locs, Pt.cells, Pt.slots] at X14 l14 y14 z14 st14 hQ14
      subst l14 y14 z14
      obtain ⟨rfl, N14q, e14⟩ := hQ14
      have N14 := Fr.app N0 N14q
      have pre6 : ∀ t, Steps p.tables e below (T14.setTop (mkF m 73 #[.val (.int p1), .val (.int (f0_v5 p1 w_ACTIVITY w_RECEIVER w_ACTIVITY_ALIAS w_PROVIDER w_SERVICE)), .val (.ref w_ACTIVITY_ALIAS), .val (.int (1 : Int32))] [(.int (1 : Int32)), (.int (f1 w_ACTIVITY_ALIAS w_ACTIVITY w_ACTIVITY_ALIAS))])) t → Steps p.tables e below (s₁.setTop (entryFrame m #[(.int p1)] maxLocals)) t := by
        intro t k
        refine pre5 t ?_
        show Steps p.tables e below (s₁.setTop (mkF m 22 #[.val (.int p1), .val (.int (f0_v5 p1 w_ACTIVITY w_RECEIVER w_ACTIVITY_ALIAS w_PROVIDER w_SERVICE)), .unset, .unset] [(.int (1 : Int32)), (.int (f0_v5 p1 w_ACTIVITY w_RECEIVER w_ACTIVITY_ALIAS w_PROVIDER w_SERVICE))])) _
        refine XS.icmpNo X0.here hx rfl (hb hby at_22) rfl (teq hc22).2 ?_
        show Steps p.tables e below (s₁.setTop (mkF m 25 #[.val (.int p1), .val (.int (f0_v5 p1 w_ACTIVITY w_RECEIVER w_ACTIVITY_ALIAS w_PROVIDER w_SERVICE)), .unset, .unset] [])) _
        refine st13 _ ?_
        show Steps p.tables e below (T13.setTop (mkF m 28 #[.val (.int p1), .val (.int (f0_v5 p1 w_ACTIVITY w_RECEIVER w_ACTIVITY_ALIAS w_PROVIDER w_SERVICE)), .unset, .unset] [(.ref w_ACTIVITY_ALIAS)])) _
        refine XS.astoreN X13.here hx rfl (hb hby at_28) rfl rfl (l' := #[.val (.int p1), .val (.int (f0_v5 p1 w_ACTIVITY w_RECEIVER w_ACTIVITY_ALIAS w_PROVIDER w_SERVICE)), .val (.ref w_ACTIVITY_ALIAS), .unset]) rfl ?_
        show Steps p.tables e below (T13.setTop (mkF m 29 #[.val (.int p1), .val (.int (f0_v5 p1 w_ACTIVITY w_RECEIVER w_ACTIVITY_ALIAS w_PROVIDER w_SERVICE)), .val (.ref w_ACTIVITY_ALIAS), .unset] [])) _
        refine XS.iconst X13.here hx rfl (hb hby at_29) ?_
        show Steps p.tables e below (T13.setTop (mkF m 30 #[.val (.int p1), .val (.int (f0_v5 p1 w_ACTIVITY w_RECEIVER w_ACTIVITY_ALIAS w_PROVIDER w_SERVICE)), .val (.ref w_ACTIVITY_ALIAS), .unset] [(.int (1 : Int32))])) _
        refine XS.istoreN X13.here hx rfl (hb hby at_30) rfl (l' := #[.val (.int p1), .val (.int (f0_v5 p1 w_ACTIVITY w_RECEIVER w_ACTIVITY_ALIAS w_PROVIDER w_SERVICE)), .val (.ref w_ACTIVITY_ALIAS), .val (.int (1 : Int32))]) rfl ?_
        show Steps p.tables e below (T13.setTop (mkF m 31 #[.val (.int p1), .val (.int (f0_v5 p1 w_ACTIVITY w_RECEIVER w_ACTIVITY_ALIAS w_PROVIDER w_SERVICE)), .val (.ref w_ACTIVITY_ALIAS), .val (.int (1 : Int32))] [])) _
        refine XS.goto X13.here hx rfl (pc0 := 31) (pc' := 68) rfl (hb hby at_31) (by decide) (by decide) ?_
        show Steps p.tables e below (T13.setTop (mkF m 68 #[.val (.int p1), .val (.int (f0_v5 p1 w_ACTIVITY w_RECEIVER w_ACTIVITY_ALIAS w_PROVIDER w_SERVICE)), .val (.ref w_ACTIVITY_ALIAS), .val (.int (1 : Int32))] [])) _
        refine XS.aloadN X13.here hx rfl (hb hby at_68) rfl rfl ?_
        show Steps p.tables e below (T13.setTop (mkF m 69 #[.val (.int p1), .val (.int (f0_v5 p1 w_ACTIVITY w_RECEIVER w_ACTIVITY_ALIAS w_PROVIDER w_SERVICE)), .val (.ref w_ACTIVITY_ALIAS), .val (.int (1 : Int32))] [(.ref w_ACTIVITY_ALIAS)])) _
        refine st14.trans ?_
        show Steps p.tables e below (T14.setTop (mkF m 72 #[.val (.int p1), .val (.int (f0_v5 p1 w_ACTIVITY w_RECEIVER w_ACTIVITY_ALIAS w_PROVIDER w_SERVICE)), .val (.ref w_ACTIVITY_ALIAS), .val (.int (1 : Int32))] [(.int (f1 w_ACTIVITY_ALIAS w_ACTIVITY w_ACTIVITY_ALIAS))])) _
        refine XS.iloadN X14.here hx rfl (hb hby at_72) rfl ?_
        exact k
      by_cases hc73 : (f1 w_ACTIVITY_ALIAS w_ACTIVITY w_ACTIVITY_ALIAS) = (1 : Int32)
      · have eq7 : (f0 p1 w_ACTIVITY w_RECEIVER w_ACTIVITY_ALIAS w_PROVIDER w_SERVICE) = (1 : Int32) := by unfold f0; simp only [if_neg hc8, if_pos hc22, if_pos hc73]
        obtain ⟨fs, hr, hrun, hended, hW, hsame⟩ := X14.leave (v := some (.int (1 : Int32))) (fun h => by rw [Bd.returns] at h; cases h)
        refine ⟨_, _, pre6 _ ?_, hrun, hended, _, _, rfl, ?_, ⟨_, rfl⟩, hW, hsame.mono (by decide) (by decide)⟩
        · show Steps p.tables e below (T14.setTop (mkF m 73 #[.val (.int p1), .val (.int (f0_v5 p1 w_ACTIVITY w_RECEIVER w_ACTIVITY_ALIAS w_PROVIDER w_SERVICE)), .val (.ref w_ACTIVITY_ALIAS), .val (.int (1 : Int32))] [(.int (1 : Int32)), (.int (f1 w_ACTIVITY_ALIAS w_ACTIVITY w_ACTIVITY_ALIAS))])) _
          refine XS.icmpNo X14.here hx rfl (hb hby at_73) rfl (teq hc73).2 ?_
          show Steps p.tables e below (T14.setTop (mkF m 76 #[.val (.int p1), .val (.int (f0_v5 p1 w_ACTIVITY w_RECEIVER w_ACTIVITY_ALIAS w_PROVIDER w_SERVICE)), .val (.ref w_ACTIVITY_ALIAS), .val (.int (1 : Int32))] [])) _
          refine XS.iconst X14.here hx rfl (hb hby at_76) ?_
          show Steps p.tables e below (T14.setTop (mkF m 77 #[.val (.int p1), .val (.int (f0_v5 p1 w_ACTIVITY w_RECEIVER w_ACTIVITY_ALIAS w_PROVIDER w_SERVICE)), .val (.ref w_ACTIVITY_ALIAS), .val (.int (1 : Int32))] [(.int (1 : Int32))])) _
          refine XS.goto X14.here hx rfl (pc0 := 77) (pc' := 81) rfl (hb hby at_77) (by decide) (by decide) ?_
          show Steps p.tables e below (T14.setTop (mkF m 81 #[.val (.int p1), .val (.int (f0_v5 p1 w_ACTIVITY w_RECEIVER w_ACTIVITY_ALIAS w_PROVIDER w_SERVICE)), .val (.ref w_ACTIVITY_ALIAS), .val (.int (1 : Int32))] [(.int (1 : Int32))])) _
          exact retN X14 hx (t := .boolean) Bd.returns (by simp) (hb hby at_81) hr
        · show Q0 Z p1 w_ACTIVITY w_RECEIVER w_ACTIVITY_ALIAS w_PROVIDER w_SERVICE h0 n0 _ T14.heap _
          rw [e14]
          exact ⟨by rw [eq7], N14, trivial⟩
      · have eq8 : (f0 p1 w_ACTIVITY w_RECEIVER w_ACTIVITY_ALIAS w_PROVIDER w_SERVICE) = (0 : Int32) := by unfold f0; simp only [if_neg hc8, if_pos hc22, if_neg hc73]
        obtain ⟨fs, hr, hrun, hended, hW, hsame⟩ := X14.leave (v := some (.int (0 : Int32))) (fun h => by rw [Bd.returns] at h; cases h)
        refine ⟨_, _, pre6 _ ?_, hrun, hended, _, _, rfl, ?_, ⟨_, rfl⟩, hW, hsame.mono (by decide) (by decide)⟩
        · show Steps p.tables e below (T14.setTop (mkF m 73 #[.val (.int p1), .val (.int (f0_v5 p1 w_ACTIVITY w_RECEIVER w_ACTIVITY_ALIAS w_PROVIDER w_SERVICE)), .val (.ref w_ACTIVITY_ALIAS), .val (.int (1 : Int32))] [(.int (1 : Int32)), (.int (f1 w_ACTIVITY_ALIAS w_ACTIVITY w_ACTIVITY_ALIAS))])) _
          refine XS.icmpYes X14.here hx rfl (pc0 := 73) (pc' := 80) rfl (hb hby at_73) rfl (feq hc73).2 (by decide) (by decide) ?_
          show Steps p.tables e below (T14.setTop (mkF m 80 #[.val (.int p1), .val (.int (f0_v5 p1 w_ACTIVITY w_RECEIVER w_ACTIVITY_ALIAS w_PROVIDER w_SERVICE)), .val (.ref w_ACTIVITY_ALIAS), .val (.int (1 : Int32))] [])) _
          refine XS.iconst X14.here hx rfl (hb hby at_80) ?_
          show Steps p.tables e below (T14.setTop (mkF m 81 #[.val (.int p1), .val (.int (f0_v5 p1 w_ACTIVITY w_RECEIVER w_ACTIVITY_ALIAS w_PROVIDER w_SERVICE)), .val (.ref w_ACTIVITY_ALIAS), .val (.int (1 : Int32))] [(.int (0 : Int32))])) _
          exact retN X14 hx (t := .boolean) Bd.returns (by simp) (hb hby at_81) hr
        · show Q0 Z p1 w_ACTIVITY w_RECEIVER w_ACTIVITY_ALIAS w_PROVIDER w_SERVICE h0 n0 _ T14.heap _
          rw [e14]
          exact ⟨by rw [eq8], N14, trivial⟩
    · have pre9 : ∀ t, Steps p.tables e below (s₁.setTop (mkF m 36 #[.val (.int p1), .val (.int (f0_v5 p1 w_ACTIVITY w_RECEIVER w_ACTIVITY_ALIAS w_PROVIDER w_SERVICE)), .unset, .unset] [(.int (2 : Int32)), (.int (f0_v5 p1 w_ACTIVITY w_RECEIVER w_ACTIVITY_ALIAS w_PROVIDER w_SERVICE))])) t → Steps p.tables e below (s₁.setTop (entryFrame m #[(.int p1)] maxLocals)) t := by
        intro t k
        refine pre5 t ?_
        show Steps p.tables e below (s₁.setTop (mkF m 22 #[.val (.int p1), .val (.int (f0_v5 p1 w_ACTIVITY w_RECEIVER w_ACTIVITY_ALIAS w_PROVIDER w_SERVICE)), .unset, .unset] [(.int (1 : Int32)), (.int (f0_v5 p1 w_ACTIVITY w_RECEIVER w_ACTIVITY_ALIAS w_PROVIDER w_SERVICE))])) _
        refine XS.icmpYes X0.here hx rfl (pc0 := 22) (pc' := 34) rfl (hb hby at_22) rfl (feq hc22).2 (by decide) (by decide) ?_
        show Steps p.tables e below (s₁.setTop (mkF m 34 #[.val (.int p1), .val (.int (f0_v5 p1 w_ACTIVITY w_RECEIVER w_ACTIVITY_ALIAS w_PROVIDER w_SERVICE)), .unset, .unset] [])) _
        refine XS.iloadN X0.here hx rfl (hb hby at_34) rfl ?_
        show Steps p.tables e below (s₁.setTop (mkF m 35 #[.val (.int p1), .val (.int (f0_v5 p1 w_ACTIVITY w_RECEIVER w_ACTIVITY_ALIAS w_PROVIDER w_SERVICE)), .unset, .unset] [(.int (f0_v5 p1 w_ACTIVITY w_RECEIVER w_ACTIVITY_ALIAS w_PROVIDER w_SERVICE))])) _
        refine XS.iconst X0.here hx rfl (hb hby at_35) ?_
        exact k
      by_cases hc36 : (f0_v5 p1 w_ACTIVITY w_RECEIVER w_ACTIVITY_ALIAS w_PROVIDER w_SERVICE) = (2 : Int32)
      · obtain ⟨T18, X18, e18, st18⟩ := getS2 X0 hx hZ hown (host := "") (Or.inl (hw _ (List.mem_of_getElem? (i := 17) rfl))) Via.refl e0 S_SERVICE (g := (mkF m 39 #[.val (.int p1), .val (.int (f0_v5 p1 w_ACTIVITY w_RECEIVER w_ACTIVITY_ALIAS w_PROVIDER w_SERVICE)), .unset, .unset] [])) rfl (hb hby at_39)
        obtain ⟨cq19, kq19, q19a, q19b, q19c⟩ := isOf hZ e18 E_w_SERVICE
        obtain ⟨_, _, ⟨T19, L19, k19, n19⟩, -, X19, ⟨Lc19, hQ19, l19, y19, z19⟩, st19⟩ := X18.virtualBack hx (y := (⟨"com/example/weaverbird/weaverbird/apps/Component$Kind", "isActivity", "()Z"⟩ : MethodName)) (z := (⟨"com/example/weaverbird/weaverbird/apps/Component$Kind", "isActivity", "()Z"⟩ : MethodName)) hown (mvT hZ (hw _ (List.mem_of_getElem? (i := 4) rfl))) (mvT hZ (hw _ (List.mem_of_getElem? (i := 5) rfl))) (notFace_of_selects (args := #[]) (mvT hZ (hw _ (List.mem_of_getElem? (i := 7) rfl)))) (mvT hZ (hw _ (List.mem_of_getElem? (i := 7) rfl))) (mvT hZ (hw _ (List.mem_of_getElem? (i := 6) rfl))) (by decide) (backOf (W := 0) (rm1 l Z a0 hw [] w_SERVICE w_ACTIVITY w_ACTIVITY_ALIAS h0 n0 Z0 S_ACTIVITY S_ACTIVITY_ALIAS) hZ (hw _ (List.mem_of_getElem? (i := 8) rfl)) (hw _ (List.mem_of_getElem? (i := 2) rfl)) (by decide) (by decide)) q19a q19c (g := (mkF m 69 #[.val (.int p1), .val (.int (f0_v5 p1 w_ACTIVITY w_RECEIVER w_ACTIVITY_ALIAS w_PROVIDER w_SERVICE)), .val (.ref w_SERVICE), .val (.int (0 : Int32))] [(.ref w_SERVICE)])) rfl (by rw [hml]; rfl) (Steps.refl _) (argsL := []) (rest := []) (lenOf pd_0 rfl) rfl (by show 2 * 0 + _ ≤ _; exact Nat.le_of_eq rfl) (hb hby at_69) (fun _ _ => ⟨rfl, e18, (by decide : 0 + 0 ≤ _), (by decide : 0 + 0 ≤ _)⟩)
        dsimp only [Pt.U, Pt.locs, Pt.cells, Pt.slots] at X19 l19 y19 z19 st19 hQ19
        subst l19 y19 z19
        obtain ⟨rfl, N19q, e19⟩ := hQ19
        have N19 := Fr.app N0 N19q
        have pre10 : ∀ t, Steps p.tables e below (T19.setTop (mkF m 73 #[.val (.int p1), .val (.int (f0_v5 p1 w_ACTIVITY w_RECEIVER w_ACTIVITY_ALIAS w_PROVIDER w_SERVICE)), .val (.ref w_SERVICE), .val (.int (0 : Int32))] [(.int (0 : Int32)), (.int (f1 w_SERVICE w_ACTIVITY w_ACTIVITY_ALIAS))])) t → Steps p.tables e below (s₁.setTop (entryFrame m #[(.int p1)] maxLocals)) t := by
          intro t k
          refine pre9 t ?_
          show Steps p.tables e below (s₁.setTop (mkF m 36 #[.val (.int p1), .val (.int (f0_v5 p1 w_ACTIVITY w_RECEIVER w_ACTIVITY_ALIAS w_PROVIDER w_SERVICE)), .unset, .unset] [(.int (2 : Int32)), (.int (f0_v5 p1 w_ACTIVITY w_RECEIVER w_ACTIVITY_ALIAS w_PROVIDER w_SERVICE))])) _
          refine XS.icmpNo X0.here hx rfl (hb hby at_36) rfl (teq hc36).2 ?_
          show Steps p.tables e below (s₁.setTop (mkF m 39 #[.val (.int p1), .val (.int (f0_v5 p1 w_ACTIVITY w_RECEIVER w_ACTIVITY_ALIAS w_PROVIDER w_SERVICE)), .unset, .unset] [])) _
          refine st18 _ ?_
          show Steps p.tables e below (T18.setTop (mkF m 42 #[.val (.int p1), .val (.int (f0_v5 p1 w_ACTIVITY w_RECEIVER w_ACTIVITY_ALIAS w_PROVIDER w_SERVICE)), .unset, .unset] [(.ref w_SERVICE)])) _
          refine XS.astoreN X18.here hx rfl (hb hby at_42) rfl rfl (l' := #[.val (.int p1), .val (.int (f0_v5 p1 w_ACTIVITY w_RECEIVER w_ACTIVITY_ALIAS w_PROVIDER w_SERVICE)), .val (.ref w_SERVICE), .unset]) rfl ?_
          show Steps p.tables e below (T18.setTop (mkF m 43 #[.val (.int p1), .val (.int (f0_v5 p1 w_ACTIVITY w_RECEIVER w_ACTIVITY_ALIAS w_PROVIDER w_SERVICE)), .val (.ref w_SERVICE), .unset] [])) _
          refine XS.iconst X18.here hx rfl (hb hby at_43) ?_
          show Steps p.tables e below (T18.setTop (mkF m 44 #[.val (.int p1), .val (.int (f0_v5 p1 w_ACTIVITY w_RECEIVER w_ACTIVITY_ALIAS w_PROVIDER w_SERVICE)), .val (.ref w_SERVICE), .unset] [(.int (0 : Int32))])) _
          refine XS.istoreN X18.here hx rfl (hb hby at_44) rfl (l' := #[.val (.int p1), .val (.int (f0_v5 p1 w_ACTIVITY w_RECEIVER w_ACTIVITY_ALIAS w_PROVIDER w_SERVICE)), .val (.ref w_SERVICE), .val (.int (0 : Int32))]) rfl ?_
          show Steps p.tables e below (T18.setTop (mkF m 45 #[.val (.int p1), .val (.int (f0_v5 p1 w_ACTIVITY w_RECEIVER w_ACTIVITY_ALIAS w_PROVIDER w_SERVICE)), .val (.ref w_SERVICE), .val (.int (0 : Int32))] [])) _
          refine XS.goto X18.here hx rfl (pc0 := 45) (pc' := 68) rfl (hb hby at_45) (by decide) (by decide) ?_
          show Steps p.tables e below (T18.setTop (mkF m 68 #[.val (.int p1), .val (.int (f0_v5 p1 w_ACTIVITY w_RECEIVER w_ACTIVITY_ALIAS w_PROVIDER w_SERVICE)), .val (.ref w_SERVICE), .val (.int (0 : Int32))] [])) _
          refine XS.aloadN X18.here hx rfl (hb hby at_68) rfl rfl ?_
          show Steps p.tables e below (T18.setTop (mkF m 69 #[.val (.int p1), .val (.int (f0_v5 p1 w_ACTIVITY w_RECEIVER w_ACTIVITY_ALIAS w_PROVIDER w_SERVICE)), .val (.ref w_SERVICE), .val (.int (0 : Int32))] [(.ref w_SERVICE)])) _
          refine st19.trans ?_
          show Steps p.tables e below (T19.setTop (mkF m 72 #[.val (.int p1), .val (.int (f0_v5 p1 w_ACTIVITY w_RECEIVER w_ACTIVITY_ALIAS w_PROVIDER w_SERVICE)), .val (.ref w_SERVICE), .val (.int (0 : Int32))] [(.int (f1 w_SERVICE w_ACTIVITY w_ACTIVITY_ALIAS))])) _
          refine XS.iloadN X19.here hx rfl (hb hby at_72) rfl ?_
          exact k
        by_cases hc73 : (f1 w_SERVICE w_ACTIVITY w_ACTIVITY_ALIAS) = (0 : Int32)
        · have eq11 : (f0 p1 w_ACTIVITY w_RECEIVER w_ACTIVITY_ALIAS w_PROVIDER w_SERVICE) = (1 : Int32) := by unfold f0; simp only [if_neg hc8, if_neg hc22, if_pos hc36, if_pos hc73]
          obtain ⟨fs, hr, hrun, hended, hW, hsame⟩ := X19.leave (v := some (.int (1 : Int32))) (fun h => by rw [Bd.returns] at h; cases h)
          refine ⟨_, _, pre10 _ ?_, hrun, hended, _, _, rfl, ?_, ⟨_, rfl⟩, hW, hsame.mono (by decide) (by decide)⟩
          · show Steps p.tables e below (T19.setTop (mkF m 73 #[.val (.int p1), .val (.int (f0_v5 p1 w_ACTIVITY w_RECEIVER w_ACTIVITY_ALIAS w_PROVIDER w_SERVICE)), .val (.ref w_SERVICE), .val (.int (0 : Int32))] [(.int (0 : Int32)), (.int (f1 w_SERVICE w_ACTIVITY w_ACTIVITY_ALIAS))])) _
            refine XS.icmpNo X19.here hx rfl (hb hby at_73) rfl (teq hc73).2 ?_
            show Steps p.tables e below (T19.setTop (mkF m 76 #[.val (.int p1), .val (.int (f0_v5 p1 w_ACTIVITY w_RECEIVER w_ACTIVITY_ALIAS w_PROVIDER w_SERVICE)), .val (.ref w_SERVICE), .val (.int (0 : Int32))] [])) _
            refine XS.iconst X19.here hx rfl (hb hby at_76) ?_
            show Steps p.tables e below (T19.setTop (mkF m 77 #[.val (.int p1), .val (.int (f0_v5 p1 w_ACTIVITY w_RECEIVER w_ACTIVITY_ALIAS w_PROVIDER w_SERVICE)), .val (.ref w_SERVICE), .val (.int (0 : Int32))] [(.int (1 : Int32))])) _
            refine XS.goto X19.here hx rfl (pc0 := 77) (pc' := 81) rfl (hb hby at_77) (by decide) (by decide) ?_
            show Steps p.tables e below (T19.setTop (mkF m 81 #[.val (.int p1), .val (.int (f0_v5 p1 w_ACTIVITY w_RECEIVER w_ACTIVITY_ALIAS w_PROVIDER w_SERVICE)), .val (.ref w_SERVICE), .val (.int (0 : Int32))] [(.int (1 : Int32))])) _
            exact retN X19 hx (t := .boolean) Bd.returns (by simp) (hb hby at_81) hr
          · show Q0 Z p1 w_ACTIVITY w_RECEIVER w_ACTIVITY_ALIAS w_PROVIDER w_SERVICE h0 n0 _ T19.heap _
            rw [e19]
            exact ⟨by rw [eq11], N19, trivial⟩
        · have eq12 : (f0 p1 w_ACTIVITY w_RECEIVER w_ACTIVITY_ALIAS w_PROVIDER w_SERVICE) = (0 : Int32) := by unfold f0; simp only [if_neg hc8, if_neg hc22, if_pos hc36, if_neg hc73]
          obtain ⟨fs, hr, hrun, hended, hW, hsame⟩ := X19.leave (v := some (.int (0 : Int32))) (fun h => by rw [Bd.returns] at h; cases h)
          refine ⟨_, _, pre10 _ ?_, hrun, hended, _, _, rfl, ?_, ⟨_, rfl⟩, hW, hsame.mono (by decide) (by decide)⟩
          · show Steps p.tables e below (T19.setTop (mkF m 73 #[.val (.int p1), .val (.int (f0_v5 p1 w_ACTIVITY w_RECEIVER w_ACTIVITY_ALIAS w_PROVIDER w_SERVICE)), .val (.ref w_SERVICE), .val (.int (0 : Int32))] [(.int (0 : Int32)), (.int (f1 w_SERVICE w_ACTIVITY w_ACTIVITY_ALIAS))])) _
            refine XS.icmpYes X19.here hx rfl (pc0 := 73) (pc' := 80) rfl (hb hby at_73) rfl (feq hc73).2 (by decide) (by decide) ?_
            show Steps p.tables e below (T19.setTop (mkF m 80 #[.val (.int p1), .val (.int (f0_v5 p1 w_ACTIVITY w_RECEIVER w_ACTIVITY_ALIAS w_PROVIDER w_SERVICE)), .val (.ref w_SERVICE), .val (.int (0 : Int32))] [])) _
            refine XS.iconst X19.here hx rfl (hb hby at_80) ?_
            show Steps p.tables e below (T19.setTop (mkF m 81 #[.val (.int p1), .val (.int (f0_v5 p1 w_ACTIVITY w_RECEIVER w_ACTIVITY_ALIAS w_PROVIDER w_SERVICE)), .val (.ref w_SERVICE), .val (.int (0 : Int32))] [(.int (0 : Int32))])) _
            exact retN X19 hx (t := .boolean) Bd.returns (by simp) (hb hby at_81) hr
          · show Q0 Z p1 w_ACTIVITY w_RECEIVER w_ACTIVITY_ALIAS w_PROVIDER w_SERVICE h0 n0 _ T19.heap _
            rw [e19]
            exact ⟨by rw [eq12], N19, trivial⟩
      · have pre13 : ∀ t, Steps p.tables e below (s₁.setTop (mkF m 50 #[.val (.int p1), .val (.int (f0_v5 p1 w_ACTIVITY w_RECEIVER w_ACTIVITY_ALIAS w_PROVIDER w_SERVICE)), .unset, .unset] [(.int (3 : Int32)), (.int (f0_v5 p1 w_ACTIVITY w_RECEIVER w_ACTIVITY_ALIAS w_PROVIDER w_SERVICE))])) t → Steps p.tables e below (s₁.setTop (entryFrame m #[(.int p1)] maxLocals)) t := by
          intro t k
          refine pre9 t ?_
          show Steps p.tables e below (s₁.setTop (mkF m 36 #[.val (.int p1), .val (.int (f0_v5 p1 w_ACTIVITY w_RECEIVER w_ACTIVITY_ALIAS w_PROVIDER w_SERVICE)), .unset, .unset] [(.int (2 : Int32)), (.int (f0_v5 p1 w_ACTIVITY w_RECEIVER w_ACTIVITY_ALIAS w_PROVIDER w_SERVICE))])) _
          refine XS.icmpYes X0.here hx rfl (pc0 := 36) (pc' := 48) rfl (hb hby at_36) rfl (feq hc36).2 (by decide) (by decide) ?_
          show Steps p.tables e below (s₁.setTop (mkF m 48 #[.val (.int p1), .val (.int (f0_v5 p1 w_ACTIVITY w_RECEIVER w_ACTIVITY_ALIAS w_PROVIDER w_SERVICE)), .unset, .unset] [])) _
          refine XS.iloadN X0.here hx rfl (hb hby at_48) rfl ?_
          show Steps p.tables e below (s₁.setTop (mkF m 49 #[.val (.int p1), .val (.int (f0_v5 p1 w_ACTIVITY w_RECEIVER w_ACTIVITY_ALIAS w_PROVIDER w_SERVICE)), .unset, .unset] [(.int (f0_v5 p1 w_ACTIVITY w_RECEIVER w_ACTIVITY_ALIAS w_PROVIDER w_SERVICE))])) _
          refine XS.iconst X0.here hx rfl (hb hby at_49) ?_
          exact k
        by_cases hc50 : (f0_v5 p1 w_ACTIVITY w_RECEIVER w_ACTIVITY_ALIAS w_PROVIDER w_SERVICE) = (3 : Int32)
        · obtain ⟨T22, X22, e22, st22⟩ := getS2 X0 hx hZ hown (host := "") (Or.inl (hw _ (List.mem_of_getElem? (i := 10) rfl))) Via.refl e0 S_RECEIVER (g := (mkF m 53 #[.val (.int p1), .val (.int (f0_v5 p1 w_ACTIVITY w_RECEIVER w_ACTIVITY_ALIAS w_PROVIDER w_SERVICE)), .unset, .unset] [])) rfl (hb hby at_53)
          obtain ⟨cq23, kq23, q23a, q23b, q23c⟩ := isOf hZ e22 E_w_RECEIVER
          obtain ⟨_, _, ⟨T23, L23, k23, n23⟩, -, X23, ⟨Lc23, hQ23, l23, y23, z23⟩, st23⟩ := X22.virtualBack hx (y := (⟨"com/example/weaverbird/weaverbird/apps/Component$Kind", "isActivity", "()Z"⟩ : MethodName)) (z := (⟨"com/example/weaverbird/weaverbird/apps/Component$Kind", "isActivity", "()Z"⟩ : MethodName)) hown (mvT hZ (hw _ (List.mem_of_getElem? (i := 4) rfl))) (mvT hZ (hw _ (List.mem_of_getElem? (i := 5) rfl))) (notFace_of_selects (args := #[]) (mvT hZ (hw _ (List.mem_of_getElem? (i := 7) rfl)))) (mvT hZ (hw _ (List.mem_of_getElem? (i := 7) rfl))) (mvT hZ (hw _ (List.mem_of_getElem? (i := 6) rfl))) (by decide) (backOf (W := 0) (rm1 l Z a0 hw [] w_RECEIVER w_ACTIVITY w_ACTIVITY_ALIAS h0 n0 Z0 S_ACTIVITY S_ACTIVITY_ALIAS) hZ (hw _ (List.mem_of_getElem? (i := 8) rfl)) (hw _ (List.mem_of_getElem? (i := 2) rfl)) (by decide) (by decide)) q23a q23c (g := (mkF m 69 #[.val (.int p1), .val (.int (f0_v5 p1 w_ACTIVITY w_RECEIVER w_ACTIVITY_ALIAS w_PROVIDER w_SERVICE)), .val (.ref w_RECEIVER), .val (.int (0 : Int32))] [(.ref w_RECEIVER)])) rfl (by rw [hml]; rfl) (Steps.refl _) (argsL := []) (rest := []) (lenOf pd_0 rfl) rfl (by show 2 * 0 + _ ≤ _; exact Nat.le_of_eq rfl) (hb hby at_69) (fun _ _ => ⟨rfl, e22, (by decide : 0 + 0 ≤ _), (by decide : 0 + 0 ≤ _)⟩)
          dsimp only [Pt.U, Pt.locs, Pt.cells, Pt.slots] at X23 l23 y23 z23 st23 hQ23
          subst l23 y23 z23
          obtain ⟨rfl, N23q, e23⟩ := hQ23
          have N23 := Fr.app N0 N23q
          have pre14 : ∀ t, Steps p.tables e below (T23.setTop (mkF m 73 #[.val (.int p1), .val (.int (f0_v5 p1 w_ACTIVITY w_RECEIVER w_ACTIVITY_ALIAS w_PROVIDER w_SERVICE)), .val (.ref w_RECEIVER), .val (.int (0 : Int32))] [(.int (0 : Int32)), (.int (f1 w_RECEIVER w_ACTIVITY w_ACTIVITY_ALIAS))])) t → Steps p.tables e below (s₁.setTop (entryFrame m #[(.int p1)] maxLocals)) t := by
            intro t k
            refine pre13 t ?_
            show Steps p.tables e below (s₁.setTop (mkF m 50 #[.val (.int p1), .val (.int (f0_v5 p1 w_ACTIVITY w_RECEIVER w_ACTIVITY_ALIAS w_PROVIDER w_SERVICE)), .unset, .unset] [(.int (3 : Int32)), (.int (f0_v5 p1 w_ACTIVITY w_RECEIVER w_ACTIVITY_ALIAS w_PROVIDER w_SERVICE))])) _
            refine XS.icmpNo X0.here hx rfl (hb hby at_50) rfl (teq hc50).2 ?_
            show Steps p.tables e below (s₁.setTop (mkF m 53 #[.val (.int p1), .val (.int (f0_v5 p1 w_ACTIVITY w_RECEIVER w_ACTIVITY_ALIAS w_PROVIDER w_SERVICE)), .unset, .unset] [])) _
            refine st22 _ ?_
            show Steps p.tables e below (T22.setTop (mkF m 56 #[.val (.int p1), .val (.int (f0_v5 p1 w_ACTIVITY w_RECEIVER w_ACTIVITY_ALIAS w_PROVIDER w_SERVICE)), .unset, .unset] [(.ref w_RECEIVER)])) _
            refine XS.astoreN X22.here hx rfl (hb hby at_56) rfl rfl (l' := #[.val (.int p1), .val (.int (f0_v5 p1 w_ACTIVITY w_RECEIVER w_ACTIVITY_ALIAS w_PROVIDER w_SERVICE)), .val (.ref w_RECEIVER), .unset]) rfl ?_
            show Steps p.tables e below (T22.setTop (mkF m 57 #[.val (.int p1), .val (.int (f0_v5 p1 w_ACTIVITY w_RECEIVER w_ACTIVITY_ALIAS w_PROVIDER w_SERVICE)), .val (.ref w_RECEIVER), .unset] [])) _
            refine XS.iconst X22.here hx rfl (hb hby at_57) ?_
            show Steps p.tables e below (T22.setTop (mkF m 58 #[.val (.int p1), .val (.int (f0_v5 p1 w_ACTIVITY w_RECEIVER w_ACTIVITY_ALIAS w_PROVIDER w_SERVICE)), .val (.ref w_RECEIVER), .unset] [(.int (0 : Int32))])) _
            refine XS.istoreN X22.here hx rfl (hb hby at_58) rfl (l' := #[.val (.int p1), .val (.int (f0_v5 p1 w_ACTIVITY w_RECEIVER w_ACTIVITY_ALIAS w_PROVIDER w_SERVICE)), .val (.ref w_RECEIVER), .val (.int (0 : Int32))]) rfl ?_
            show Steps p.tables e below (T22.setTop (mkF m 59 #[.val (.int p1), .val (.int (f0_v5 p1 w_ACTIVITY w_RECEIVER w_ACTIVITY_ALIAS w_PROVIDER w_SERVICE)), .val (.ref w_RECEIVER), .val (.int (0 : Int32))] [])) _
            refine XS.goto X22.here hx rfl (pc0 := 59) (pc' := 68) rfl (hb hby at_59) (by decide) (by decide) ?_
            show Steps p.tables e below (T22.setTop (mkF m 68 #[.val (.int p1), .val (.int (f0_v5 p1 w_ACTIVITY w_RECEIVER w_ACTIVITY_ALIAS w_PROVIDER w_SERVICE)), .val (.ref w_RECEIVER), .val (.int (0 : Int32))] [])) _
            refine XS.aloadN X22.here hx rfl (hb hby at_68) rfl rfl ?_
            show Steps p.tables e below (T22.setTop (mkF m 69 #[.val (.int p1), .val (.int (f0_v5 p1 w_ACTIVITY w_RECEIVER w_ACTIVITY_ALIAS w_PROVIDER w_SERVICE)), .val (.ref w_RECEIVER), .val (.int (0 : Int32))] [(.ref w_RECEIVER)])) _
            refine st23.trans ?_
            show Steps p.tables e below (T23.setTop (mkF m 72 #[.val (.int p1), .val (.int (f0_v5 p1 w_ACTIVITY w_RECEIVER w_ACTIVITY_ALIAS w_PROVIDER w_SERVICE)), .val (.ref w_RECEIVER), .val (.int (0 : Int32))] [(.int (f1 w_RECEIVER w_ACTIVITY w_ACTIVITY_ALIAS))])) _
            refine XS.iloadN X23.here hx rfl (hb hby at_72) rfl ?_
            exact k
          by_cases hc73 : (f1 w_RECEIVER w_ACTIVITY w_ACTIVITY_ALIAS) = (0 : Int32)
          · have eq15 : (f0 p1 w_ACTIVITY w_RECEIVER w_ACTIVITY_ALIAS w_PROVIDER w_SERVICE) = (1 : Int32) := by unfold f0; simp only [if_neg hc8, if_neg hc22, if_neg hc36, if_pos hc50, if_pos hc73]
            obtain ⟨fs, hr, hrun, hended, hW, hsame⟩ := X23.leave (v := some (.int (1 : Int32))) (fun h => by rw [Bd.returns] at h; cases h)
            refine ⟨_, _, pre14 _ ?_, hrun, hended, _, _, rfl, ?_, ⟨_, rfl⟩, hW, hsame.mono (by decide) (by decide)⟩
            · show Steps p.tables e below (T23.setTop (mkF m 73 #[.val (.int p1), .val (.int (f0_v5 p1 w_ACTIVITY w_RECEIVER w_ACTIVITY_ALIAS w_PROVIDER w_SERVICE)), .val (.ref w_RECEIVER), .val (.int (0 : Int32))] [(.int (0 : Int32)), (.int (f1 w_RECEIVER w_ACTIVITY w_ACTIVITY_ALIAS))])) _
              refine XS.icmpNo X23.here hx rfl (hb hby at_73) rfl (teq hc73).2 ?_
              show Steps p.tables e below (T23.setTop (mkF m 76 #[.val (.int p1), .val (.int (f0_v5 p1 w_ACTIVITY w_RECEIVER w_ACTIVITY_ALIAS w_PROVIDER w_SERVICE)), .val (.ref w_RECEIVER), .val (.int (0 : Int32))] [])) _
              refine XS.iconst X23.here hx rfl (hb hby at_76) ?_
              show Steps p.tables e below (T23.setTop (mkF m 77 #[.val (.int p1), .val (.int (f0_v5 p1 w_ACTIVITY w_RECEIVER w_ACTIVITY_ALIAS w_PROVIDER w_SERVICE)), .val (.ref w_RECEIVER), .val (.int (0 : Int32))] [(.int (1 : Int32))])) _
              refine XS.goto X23.here hx rfl (pc0 := 77) (pc' := 81) rfl (hb hby at_77) (by decide) (by decide) ?_
              show Steps p.tables e below (T23.setTop (mkF m 81 #[.val (.int p1), .val (.int (f0_v5 p1 w_ACTIVITY w_RECEIVER w_ACTIVITY_ALIAS w_PROVIDER w_SERVICE)), .val (.ref w_RECEIVER), .val (.int (0 : Int32))] [(.int (1 : Int32))])) _
              exact retN X23 hx (t := .boolean) Bd.returns (by simp) (hb hby at_81) hr
            · show Q0 Z p1 w_ACTIVITY w_RECEIVER w_ACTIVITY_ALIAS w_PROVIDER w_SERVICE h0 n0 _ T23.heap _
              rw [e23]
              exact ⟨by rw [eq15], N23, trivial⟩
          · have eq16 : (f0 p1 w_ACTIVITY w_RECEIVER w_ACTIVITY_ALIAS w_PROVIDER w_SERVICE) = (0 : Int32) := by unfold f0; simp only [if_neg hc8, if_neg hc22, if_neg hc36, if_pos hc50, if_neg hc73]
            obtain ⟨fs, hr, hrun, hended, hW, hsame⟩ := X23.leave (v := some (.int (0 : Int32))) (fun h => by rw [Bd.returns] at h; cases h)
            refine ⟨_, _, pre14 _ ?_, hrun, hended, _, _, rfl, ?_, ⟨_, rfl⟩, hW, hsame.mono (by decide) (by decide)⟩
            · show Steps p.tables e below (T23.setTop (mkF m 73 #[.val (.int p1), .val (.int (f0_v5 p1 w_ACTIVITY w_RECEIVER w_ACTIVITY_ALIAS w_PROVIDER w_SERVICE)), .val (.ref w_RECEIVER), .val (.int (0 : Int32))] [(.int (0 : Int32)), (.int (f1 w_RECEIVER w_ACTIVITY w_ACTIVITY_ALIAS))])) _
              refine XS.icmpYes X23.here hx rfl (pc0 := 73) (pc' := 80) rfl (hb hby at_73) rfl (feq hc73).2 (by decide) (by decide) ?_
              show Steps p.tables e below (T23.setTop (mkF m 80 #[.val (.int p1), .val (.int (f0_v5 p1 w_ACTIVITY w_RECEIVER w_ACTIVITY_ALIAS w_PROVIDER w_SERVICE)), .val (.ref w_RECEIVER), .val (.int (0 : Int32))] [])) _
              refine XS.iconst X23.here hx rfl (hb hby at_80) ?_
              show Steps p.tables e below (T23.setTop (mkF m 81 #[.val (.int p1), .val (.int (f0_v5 p1 w_ACTIVITY w_RECEIVER w_ACTIVITY_ALIAS w_PROVIDER w_SERVICE)), .val (.ref w_RECEIVER), .val (.int (0 : Int32))] [(.int (0 : Int32))])) _
              exact retN X23 hx (t := .boolean) Bd.returns (by simp) (hb hby at_81) hr
            · show Q0 Z p1 w_ACTIVITY w_RECEIVER w_ACTIVITY_ALIAS w_PROVIDER w_SERVICE h0 n0 _ T23.heap _
              rw [e23]
              exact ⟨by rw [eq16], N23, trivial⟩
        · obtain ⟨T24, X24, e24, st24⟩ := getS2 X0 hx hZ hown (host := "") (Or.inl (hw _ (List.mem_of_getElem? (i := 15) rfl))) Via.refl e0 S_PROVIDER (g := (mkF m 62 #[.val (.int p1), .val (.int (f0_v5 p1 w_ACTIVITY w_RECEIVER w_ACTIVITY_ALIAS w_PROVIDER w_SERVICE)), .unset, .unset] [])) rfl (hb hby at_62)
          obtain ⟨cq25, kq25, q25a, q25b, q25c⟩ := isOf hZ e24 E_w_PROVIDER
          obtain ⟨_, _, ⟨T25, L25, k25, n25⟩, -, X25, ⟨Lc25, hQ25, l25, y25, z25⟩, st25⟩ := X24.virtualBack hx (y := (⟨"com/example/weaverbird/weaverbird/apps/Component$Kind", "isActivity", "()Z"⟩ : MethodName)) (z := (⟨"com/example/weaverbird/weaverbird/apps/Component$Kind", "isActivity", "()Z"⟩ : MethodName)) hown (mvT hZ (hw _ (List.mem_of_getElem? (i := 4) rfl))) (mvT hZ (hw _ (List.mem_of_getElem? (i := 5) rfl))) (notFace_of_selects (args := #[]) (mvT hZ (hw _ (List.mem_of_getElem? (i := 7) rfl)))) (mvT hZ (hw _ (List.mem_of_getElem? (i := 7) rfl))) (mvT hZ (hw _ (List.mem_of_getElem? (i := 6) rfl))) (by decide) (backOf (W := 0) (rm1 l Z a0 hw [] w_PROVIDER w_ACTIVITY w_ACTIVITY_ALIAS h0 n0 Z0 S_ACTIVITY S_ACTIVITY_ALIAS) hZ (hw _ (List.mem_of_getElem? (i := 8) rfl)) (hw _ (List.mem_of_getElem? (i := 2) rfl)) (by decide) (by decide)) q25a q25c (g := (mkF m 69 #[.val (.int p1), .val (.int (f0_v5 p1 w_ACTIVITY w_RECEIVER w_ACTIVITY_ALIAS w_PROVIDER w_SERVICE)), .val (.ref w_PROVIDER), .val (.int (0 : Int32))] [(.ref w_PROVIDER)])) rfl (by rw [hml]; rfl) (Steps.refl _) (argsL := []) (rest := []) (lenOf pd_0 rfl) rfl (by show 2 * 0 + _ ≤ _; exact Nat.le_of_eq rfl) (hb hby at_69) (fun _ _ => ⟨rfl, e24, (by decide : 0 + 0 ≤ _), (by decide : 0 + 0 ≤ _)⟩)
          dsimp only [Pt.U, Pt.locs, Pt.cells, Pt.slots] at X25 l25 y25 z25 st25 hQ25
          subst l25 y25 z25
          obtain ⟨rfl, N25q, e25⟩ := hQ25
          have N25 := Fr.app N0 N25q
          have pre17 : ∀ t, Steps p.tables e below (T25.setTop (mkF m 73 #[.val (.int p1), .val (.int (f0_v5 p1 w_ACTIVITY w_RECEIVER w_ACTIVITY_ALIAS w_PROVIDER w_SERVICE)), .val (.ref w_PROVIDER), .val (.int (0 : Int32))] [(.int (0 : Int32)), (.int (f1 w_PROVIDER w_ACTIVITY w_ACTIVITY_ALIAS))])) t → Steps p.tables e below (s₁.setTop (entryFrame m #[(.int p1)] maxLocals)) t := by
            intro t k
            refine pre13 t ?_
            show Steps p.tables e below (s₁.setTop (mkF m 50 #[.val (.int p1), .val (.int (f0_v5 p1 w_ACTIVITY w_RECEIVER w_ACTIVITY_ALIAS w_PROVIDER w_SERVICE)), .unset, .unset] [(.int (3 : Int32)), (.int (f0_v5 p1 w_ACTIVITY w_RECEIVER w_ACTIVITY_ALIAS w_PROVIDER w_SERVICE))])) _
            refine XS.icmpYes X0.here hx rfl (pc0 := 50) (pc' := 62) rfl (hb hby at_50) rfl (feq hc50).2 (by decide) (by decide) ?_
            show Steps p.tables e below (s₁.setTop (mkF m 62 #[.val (.int p1), .val (.int (f0_v5 p1 w_ACTIVITY w_RECEIVER w_ACTIVITY_ALIAS w_PROVIDER w_SERVICE)), .unset, .unset] [])) _
            refine st24 _ ?_
            show Steps p.tables e below (T24.setTop (mkF m 65 #[.val (.int p1), .val (.int (f0_v5 p1 w_ACTIVITY w_RECEIVER w_ACTIVITY_ALIAS w_PROVIDER w_SERVICE)), .unset, .unset] [(.ref w_PROVIDER)])) _
            refine XS.astoreN X24.here hx rfl (hb hby at_65) rfl rfl (l' := #[.val (.int p1), .val (.int (f0_v5 p1 w_ACTIVITY w_RECEIVER w_ACTIVITY_ALIAS w_PROVIDER w_SERVICE)), .val (.ref w_PROVIDER), .unset]) rfl ?_
            show Steps p.tables e below (T24.setTop (mkF m 66 #[.val (.int p1), .val (.int (f0_v5 p1 w_ACTIVITY w_RECEIVER w_ACTIVITY_ALIAS w_PROVIDER w_SERVICE)), .val (.ref w_PROVIDER), .unset] [])) _
            refine XS.iconst X24.here hx rfl (hb hby at_66) ?_
            show Steps p.tables e below (T24.setTop (mkF m 67 #[.val (.int p1), .val (.int (f0_v5 p1 w_ACTIVITY w_RECEIVER w_ACTIVITY_ALIAS w_PROVIDER w_SERVICE)), .val (.ref w_PROVIDER), .unset] [(.int (0 : Int32))])) _
            refine XS.istoreN X24.here hx rfl (hb hby at_67) rfl (l' := #[.val (.int p1), .val (.int (f0_v5 p1 w_ACTIVITY w_RECEIVER w_ACTIVITY_ALIAS w_PROVIDER w_SERVICE)), .val (.ref w_PROVIDER), .val (.int (0 : Int32))]) rfl ?_
            show Steps p.tables e below (T24.setTop (mkF m 68 #[.val (.int p1), .val (.int (f0_v5 p1 w_ACTIVITY w_RECEIVER w_ACTIVITY_ALIAS w_PROVIDER w_SERVICE)), .val (.ref w_PROVIDER), .val (.int (0 : Int32))] [])) _
            refine XS.aloadN X24.here hx rfl (hb hby at_68) rfl rfl ?_
            show Steps p.tables e below (T24.setTop (mkF m 69 #[.val (.int p1), .val (.int (f0_v5 p1 w_ACTIVITY w_RECEIVER w_ACTIVITY_ALIAS w_PROVIDER w_SERVICE)), .val (.ref w_PROVIDER), .val (.int (0 : Int32))] [(.ref w_PROVIDER)])) _
            refine st25.trans ?_
            show Steps p.tables e below (T25.setTop (mkF m 72 #[.val (.int p1), .val (.int (f0_v5 p1 w_ACTIVITY w_RECEIVER w_ACTIVITY_ALIAS w_PROVIDER w_SERVICE)), .val (.ref w_PROVIDER), .val (.int (0 : Int32))] [(.int (f1 w_PROVIDER w_ACTIVITY w_ACTIVITY_ALIAS))])) _
            refine XS.iloadN X25.here hx rfl (hb hby at_72) rfl ?_
            exact k
          by_cases hc73 : (f1 w_PROVIDER w_ACTIVITY w_ACTIVITY_ALIAS) = (0 : Int32)
          · have eq18 : (f0 p1 w_ACTIVITY w_RECEIVER w_ACTIVITY_ALIAS w_PROVIDER w_SERVICE) = (1 : Int32) := by unfold f0; simp only [if_neg hc8, if_neg hc22, if_neg hc36, if_neg hc50, if_pos hc73]
            obtain ⟨fs, hr, hrun, hended, hW, hsame⟩ := X25.leave (v := some (.int (1 : Int32))) (fun h => by rw [Bd.returns] at h; cases h)
            refine ⟨_, _, pre17 _ ?_, hrun, hended, _, _, rfl, ?_, ⟨_, rfl⟩, hW, hsame.mono (by decide) (by decide)⟩
            · show Steps p.tables e below (T25.setTop (mkF m 73 #[.val (.int p1), .val (.int (f0_v5 p1 w_ACTIVITY w_RECEIVER w_ACTIVITY_ALIAS w_PROVIDER w_SERVICE)), .val (.ref w_PROVIDER), .val (.int (0 : Int32))] [(.int (0 : Int32)), (.int (f1 w_PROVIDER w_ACTIVITY w_ACTIVITY_ALIAS))])) _
              refine XS.icmpNo X25.here hx rfl (hb hby at_73) rfl (teq hc73).2 ?_
              show Steps p.tables e below (T25.setTop (mkF m 76 #[.val (.int p1), .val (.int (f0_v5 p1 w_ACTIVITY w_RECEIVER w_ACTIVITY_ALIAS w_PROVIDER w_SERVICE)), .val (.ref w_PROVIDER), .val (.int (0 : Int32))] [])) _
              refine XS.iconst X25.here hx rfl (hb hby at_76) ?_
              show Steps p.tables e below (T25.setTop (mkF m 77 #[.val (.int p1), .val (.int (f0_v5 p1 w_ACTIVITY w_RECEIVER w_ACTIVITY_ALIAS w_PROVIDER w_SERVICE)), .val (.ref w_PROVIDER), .val (.int (0 : Int32))] [(.int (1 : Int32))])) _
              refine XS.goto X25.here hx rfl (pc0 := 77) (pc' := 81) rfl (hb hby at_77) (by decide) (by decide) ?_
              show Steps p.tables e below (T25.setTop (mkF m 81 #[.val (.int p1), .val (.int (f0_v5 p1 w_ACTIVITY w_RECEIVER w_ACTIVITY_ALIAS w_PROVIDER w_SERVICE)), .val (.ref w_PROVIDER), .val (.int (0 : Int32))] [(.int (1 : Int32))])) _
              exact retN X25 hx (t := .boolean) Bd.returns (by simp) (hb hby at_81) hr
            · show Q0 Z p1 w_ACTIVITY w_RECEIVER w_ACTIVITY_ALIAS w_PROVIDER w_SERVICE h0 n0 _ T25.heap _
              rw [e25]
              exact ⟨by rw [eq18], N25, trivial⟩
          · have eq19 : (f0 p1 w_ACTIVITY w_RECEIVER w_ACTIVITY_ALIAS w_PROVIDER w_SERVICE) = (0 : Int32) := by unfold f0; simp only [if_neg hc8, if_neg hc22, if_neg hc36, if_neg hc50, if_neg hc73]
            obtain ⟨fs, hr, hrun, hended, hW, hsame⟩ := X25.leave (v := some (.int (0 : Int32))) (fun h => by rw [Bd.returns] at h; cases h)
            refine ⟨_, _, pre17 _ ?_, hrun, hended, _, _, rfl, ?_, ⟨_, rfl⟩, hW, hsame.mono (by decide) (by decide)⟩
            · show Steps p.tables e below (T25.setTop (mkF m 73 #[.val (.int p1), .val (.int (f0_v5 p1 w_ACTIVITY w_RECEIVER w_ACTIVITY_ALIAS w_PROVIDER w_SERVICE)), .val (.ref w_PROVIDER), .val (.int (0 : Int32))] [(.int (0 : Int32)), (.int (f1 w_PROVIDER w_ACTIVITY w_ACTIVITY_ALIAS))])) _
              refine XS.icmpYes X25.here hx rfl (pc0 := 73) (pc' := 80) rfl (hb hby at_73) rfl (feq hc73).2 (by decide) (by decide) ?_
              show Steps p.tables e below (T25.setTop (mkF m 80 #[.val (.int p1), .val (.int (f0_v5 p1 w_ACTIVITY w_RECEIVER w_ACTIVITY_ALIAS w_PROVIDER w_SERVICE)), .val (.ref w_PROVIDER), .val (.int (0 : Int32))] [])) _
              refine XS.iconst X25.here hx rfl (hb hby at_80) ?_
              show Steps p.tables e below (T25.setTop (mkF m 81 #[.val (.int p1), .val (.int (f0_v5 p1 w_ACTIVITY w_RECEIVER w_ACTIVITY_ALIAS w_PROVIDER w_SERVICE)), .val (.ref w_PROVIDER), .val (.int (0 : Int32))] [(.int (0 : Int32))])) _
              exact retN X25 hx (t := .boolean) Bd.returns (by simp) (hb hby at_81) hr
            · show Q0 Z p1 w_ACTIVITY w_RECEIVER w_ACTIVITY_ALIAS w_PROVIDER w_SERVICE h0 n0 _ T25.heap _
              rw [e25]
              exact ⟨by rw [eq19], N25, trivial⟩
theorem own_law (p : Int32) (a r l v s : Addr) (h1 : l ≠ a) (h2 : s ≠ a) (h3 : s ≠ l) (h4 : r ≠ a) (h5 : r ≠ l) (h6 : v ≠ a) (h7 : v ≠ l) : f0 p a r l v s = 1 := by
  unfold f0 f1
  simp [h1, h2, h3, h4, h5, h6, h7]

set_option maxRecDepth 65536 in
set_option maxHeartbeats 40000000 in
theorem comes_1 {Post : Tables → Env → Array Value → State → Outcome → State → Prop} (hpost : ∀ tb e args s v u, (limb_1_1.after args s (.returned v) u = true ∧ limb_1_2.after args s (.returned v) u = true ∧ True) → FrameEnd s (.returned v) u (Jvm.fieldLocs frame_1_writes args s ++ Jvm.arrayLocs frame_1_arrays args s ++ Jvm.staticLocs frame_1_statics s) 0 0 → Post tb e args s (.returned v) u) :
    ArmFor flags0 classFile x code maxLocals ret World_1 tables_1 room_1 Calls_1 rest_1 Pre_1 Post := by
  intro l hfl _ _ p e ha hc hk s m args below hf hA hF happ hP
  obtain ⟨hcalls, hrest, hpre⟩ := hP
  obtain ⟨-, -, -, hnamed, -, -, -, hat⟩ := (Spec.applies_iff hf).mp happ
  obtain ⟨hg, hn⟩ := and_e (Cond.before_iff.mp (show (Jvm.Cond.and given_1 narrow_1).before args s = true from hpre))
  obtain ⟨g1, g2⟩ := and_e hg
  obtain ⟨w0, rfl⟩ : ∃ w0 : Value, args = #[w0] := by
    have hs : args.size = 1 := by simpa [Cond.value, given_1] using g1
    obtain ⟨L⟩ := args
    match L, hs with
    | [w0], _ => exact ⟨w0, rfl⟩
  have hw := fun d (hd : d ∈ tables_1) => atoms_spec (ws := Jvm.Cond.code x code maxLocals ret :: tables_1) hat d (List.mem_cons_of_mem _ hd)
  have hfit : Fit s := fun {y c} hc i hi => by
    obtain ⟨ha, rfl⟩ := Array.getElem?_eq_some_iff.mp hc
    have q := List.all_eq_true.mp ((Array.all_eq_true_iff_forall_mem.mp hF) _ (Array.getElem_mem ha)) i (List.mem_range.mpr hi)
    simpa [Array.getElem?_eq_getElem hi] using q
  obtain ⟨i0, ei0⟩ := is_v g2
  obtain rfl : w0 = (.int i0) := Option.some.inj ei0
  obtain ⟨n1, n2⟩ := and_e hn
  obtain ⟨n3, n4⟩ := and_e n2
  obtain ⟨n5, n6⟩ := and_e n4
  obtain ⟨n7, n8⟩ := and_e n6
  obtain ⟨n9, n10⟩ := and_e n8
  obtain ⟨n11, n12⟩ := and_e n10
  obtain ⟨n13, n14⟩ := and_e n12
  obtain ⟨n15, n16⟩ := and_e n14
  obtain ⟨n17, n18⟩ := and_e n16
  obtain ⟨a_ACTIVITY, ea_ACTIVITY⟩ := exa_v n1
  have S_ACTIVITY : Sta s s.heap "com/example/weaverbird/weaverbird/apps/Component$Kind" "ACTIVITY" "Lcom/example/weaverbird/weaverbird/apps/Component$Kind;" (.ref a_ACTIVITY) := Sta.start ea_ACTIVITY (Or.inr ⟨(hw _ (List.mem_of_getElem? (i := 2) rfl)), (hw _ (List.mem_of_getElem? (i := 3) rfl))⟩)
  have E_ACTIVITY : Exa s s.heap a_ACTIVITY "com/example/weaverbird/weaverbird/apps/Component$Kind" := Exa.start ea_ACTIVITY n1
  obtain ⟨a_RECEIVER, ea_RECEIVER⟩ := exa_v n3
  have S_RECEIVER : Sta s s.heap "com/example/weaverbird/weaverbird/apps/Component$Kind" "RECEIVER" "Lcom/example/weaverbird/weaverbird/apps/Component$Kind;" (.ref a_RECEIVER) := Sta.start ea_RECEIVER (Or.inr ⟨(hw _ (List.mem_of_getElem? (i := 2) rfl)), (hw _ (List.mem_of_getElem? (i := 11) rfl))⟩)
  have E_RECEIVER : Exa s s.heap a_RECEIVER "com/example/weaverbird/weaverbird/apps/Component$Kind" := Exa.start ea_RECEIVER n3
  obtain ⟨a_ACTIVITY_ALIAS, ea_ACTIVITY_ALIAS⟩ := exa_v n9
  have S_ACTIVITY_ALIAS : Sta s s.heap "com/example/weaverbird/weaverbird/apps/Component$Kind" "ACTIVITY_ALIAS" "Lcom/example/weaverbird/weaverbird/apps/Component$Kind;" (.ref a_ACTIVITY_ALIAS) := Sta.start ea_ACTIVITY_ALIAS (Or.inr ⟨(hw _ (List.mem_of_getElem? (i := 2) rfl)), (hw _ (List.mem_of_getElem? (i := 13) rfl))⟩)
  have E_ACTIVITY_ALIAS : Exa s s.heap a_ACTIVITY_ALIAS "com/example/weaverbird/weaverbird/apps/Component$Kind" := Exa.start ea_ACTIVITY_ALIAS n9
  obtain ⟨a_PROVIDER, ea_PROVIDER⟩ := exa_v n13
  have S_PROVIDER : Sta s s.heap "com/example/weaverbird/weaverbird/apps/Component$Kind" "PROVIDER" "Lcom/example/weaverbird/weaverbird/apps/Component$Kind;" (.ref a_PROVIDER) := Sta.start ea_PROVIDER (Or.inr ⟨(hw _ (List.mem_of_getElem? (i := 2) rfl)), (hw _ (List.mem_of_getElem? (i := 16) rfl))⟩)
  have E_PROVIDER : Exa s s.heap a_PROVIDER "com/example/weaverbird/weaverbird/apps/Component$Kind" := Exa.start ea_PROVIDER n13
  obtain ⟨a_SERVICE, ea_SERVICE⟩ := exa_v n17
  have S_SERVICE : Sta s s.heap "com/example/weaverbird/weaverbird/apps/Component$Kind" "SERVICE" "Lcom/example/weaverbird/weaverbird/apps/Component$Kind;" (.ref a_SERVICE) := Sta.start ea_SERVICE (Or.inr ⟨(hw _ (List.mem_of_getElem? (i := 2) rfl)), (hw _ (List.mem_of_getElem? (i := 18) rfl))⟩)
  have E_SERVICE : Exa s s.heap a_SERVICE "com/example/weaverbird/weaverbird/apps/Component$Kind" := Exa.start ea_SERVICE n17
  have O_RECEIVER : Fld s s.heap a_RECEIVER "java/lang/Enum" "ordinal" "I" (.int 3) := Fld.start ((fld_at ea_RECEIVER).symm.trans (own_eqint n5))
  have O_ACTIVITY : Fld s s.heap a_ACTIVITY "java/lang/Enum" "ordinal" "I" (.int 0) := Fld.start ((fld_at ea_ACTIVITY).symm.trans (own_eqint n7))
  have O_ACTIVITY_ALIAS : Fld s s.heap a_ACTIVITY_ALIAS "java/lang/Enum" "ordinal" "I" (.int 1) := Fld.start ((fld_at ea_ACTIVITY_ALIAS).symm.trans (own_eqint n11))
  have O_PROVIDER : Fld s s.heap a_PROVIDER "java/lang/Enum" "ordinal" "I" (.int 4) := Fld.start ((fld_at ea_PROVIDER).symm.trans (own_eqint n15))
  have O_SERVICE : Fld s s.heap a_SERVICE "java/lang/Enum" "ordinal" "I" (.int 2) := Fld.start ((fld_at ea_SERVICE).symm.trans (own_eqint n18))
  have ne_SERVICE_ACTIVITY : a_SERVICE ≠ a_ACTIVITY := Fld.ne O_SERVICE O_ACTIVITY (by decide)
  have ne_SERVICE_ACTIVITY_ALIAS : a_SERVICE ≠ a_ACTIVITY_ALIAS := Fld.ne O_SERVICE O_ACTIVITY_ALIAS (by decide)
  have ne_RECEIVER_ACTIVITY : a_RECEIVER ≠ a_ACTIVITY := Fld.ne O_RECEIVER O_ACTIVITY (by decide)
  have ne_RECEIVER_ACTIVITY_ALIAS : a_RECEIVER ≠ a_ACTIVITY_ALIAS := Fld.ne O_RECEIVER O_ACTIVITY_ALIAS (by decide)
  have ne_PROVIDER_ACTIVITY : a_PROVIDER ≠ a_ACTIVITY := Fld.ne O_PROVIDER O_ACTIVITY (by decide)
  have ne_PROVIDER_ACTIVITY_ALIAS : a_PROVIDER ≠ a_ACTIVITY_ALIAS := Fld.ne O_PROVIDER O_ACTIVITY_ALIAS (by decide)
  have ne_ACTIVITY_ALIAS_ACTIVITY : a_ACTIVITY_ALIAS ≠ a_ACTIVITY := Fld.ne O_ACTIVITY_ALIAS O_ACTIVITY (by decide)
  obtain ⟨n, o, h1, h2, h3, v', L, rfl, ⟨hv', N, -⟩, hq⟩ := rm0 l s _ hw tables_1 i0 a_ACTIVITY a_RECEIVER a_ACTIVITY_ALIAS a_PROVIDER a_SERVICE s.heap s.heap.size (Nat.le_refl _) S_ACTIVITY S_RECEIVER S_ACTIVITY_ALIAS S_PROVIDER S_SERVICE E_ACTIVITY E_RECEIVER E_ACTIVITY_ALIAS E_PROVIDER E_SERVICE p e ha hc hk s m _ below hf ((Spec.applies_iff_loose hf).mp happ).1 ⟨rfl, State.Warmed39.refl s, rfl⟩ trivial
  rw [own_law i0 a_ACTIVITY a_RECEIVER a_ACTIVITY_ALIAS a_PROVIDER a_SERVICE ne_ACTIVITY_ALIAS_ACTIVITY ne_SERVICE_ACTIVITY ne_SERVICE_ACTIVITY_ALIAS ne_RECEIVER_ACTIVITY ne_RECEIVER_ACTIVITY_ALIAS ne_PROVIDER_ACTIVITY ne_PROVIDER_ACTIVITY_ALIAS] at hv'
  subst hv'
  refine ⟨n, _, h1, h2, h3, hpost _ _ _ _ _ _ ⟨Cond.after_iff.mpr rfl, Cond.after_iff.mpr (eq_i res_at (Term.int_eval (1)) rfl), trivial⟩ ⟨hq.1, hq.2.1, (hq.2.2.sift fun y hy => Or.inr (N y hy)).mono (by decide) (by decide)⟩⟩
theorem main_1_1 : Claimed_1_1 := comes_1 fun _ _ _ _ _ _ h hF => ⟨h.1, hF⟩
theorem main_1_2 : Claimed_1_2 := comes_1 fun _ _ _ _ _ _ h hF => ⟨h.2.1, hF⟩
end Jvm.Pilot.@@N@@
namespace Jvm.Pilot.@@N@@
open Jvm Jvm.ClassFile Sem Op Lib Jvm.Free Jvm.Stand Jvm.Pilot.@@N@@.Jvm.D
/-! MADE BY PROGRAM (witnessworld.py) out of the Statement's table words and the real class files: 12 classes; the members and pool entries that the words name. The judged class is class 1, her method 1. -/
namespace start1
open Jvm.ClassFile
def u (s : String) : CpInfo := .utf8 (stringToUtf16 s)
/-- a pool by its gaps: so many unusable entries, then the entry; so many at the end -/
def gap : Nat → List CpInfo → List CpInfo
  | 0, r => r
  | n + 1, r => .unusable :: gap n r
def poolList (es : List (Nat × CpInfo)) (last : Nat) : List CpInfo := es.foldr (fun e r => gap e.1 (e.2 :: r)) (gap last [])
def pool (es : List (Nat × CpInfo)) (last : Nat) : Array CpInfo := ⟨poolList es last⟩
def fileOf (pool : Array CpInfo) (this : Nat) (attrs : Array Attribute := #[]) (ms : Array MethodInfo := #[]) (fl : Nat := 33) (sup : Nat := 0) (ifs : Array Nat := #[]) (fds : Array FieldInfo := #[]) : ClassFile where
  minorVersion := 0
  majorVersion := 65
  constantPool := pool
  accessFlags := fl
  thisClass := this
  superClass := sup
  interfaces := ifs
  fields := fds
  methods := ms
  attributes := attrs
def plain (name : String) (sup : Option ClassId) : Class where
  name := name
  kind := .ordinary
  loader := none
  accessFlags := 33
  super := sup
  interfaces := #[]
  cf := none
  fields := #[]
  methods := #[]
  instanceTypes := #[]
  staticTypes := #[]
  resolved := #[]
  callSites := []
  init := .initialized
  statics := none
  mirror := none

def pool0 : Array CpInfo := pool [(5, u "<init>"), (0, u "()V"), (1, .class_ 10), (1, u "java/lang/Object")] 113

def k0m0 : Method := { name := "<init>", desc := "()V", sig := { parameters := [], returnType := none }, accessFlags := 1, code := none }
/-- java/lang/Object -/
def k0 : Class := { plain "java/lang/Object" none with
  accessFlags := 33
  interfaces := #[]
  cf := some (fileOf pool0 8 #[] #[{ accessFlags := 1, nameIndex := 5, descriptorIndex := 6, attributes := #[] }] 33 0 #[] #[])
  fields := #[]
  methods := #[k0m0]
  instanceTypes := #[]
  staticTypes := #[]
  resolved := Array.replicate 124 none
  statics := none }

def pool1 : Array CpInfo := pool [(2, .class_ 4), (1, u "java/lang/Object"), (0, u "<init>"), (0, u "()V"), (0, .integer 2147483647), (0, .fieldref 9 10), (0, .class_ 11), (0, .nameAndType 12 13), (0, u "com/example/weaverbird/weaverbird/apps/Component$Kind"), (0, u "ACTIVITY"), (0, u "Lcom/example/weaverbird/weaverbird/apps/Component$Kind;"), (0, .fieldref 9 15), (0, .nameAndType 16 13), (0, u "ACTIVITY_ALIAS"), (0, .fieldref 9 18), (0, .nameAndType 19 13), (0, u "SERVICE"), (0, .fieldref 9 21), (0, .nameAndType 22 13), (0, u "RECEIVER"), (0, .fieldref 9 24), (0, .nameAndType 25 13), (0, u "PROVIDER"), (0, .methodref 9 27), (0, .nameAndType 28 29), (0, u "isActivity"), (0, u "()Z"), (0, .class_ 31), (0, u "com/example/weaverbird/weaverbird/apps/KindIsActivityPinLaw"), (2, u "law"), (0, u "(I)Z")] 7

def k1m0 : Method := { name := "<init>", desc := "()V", sig := { parameters := [], returnType := none }, accessFlags := 2, code := none }
def k1c1 : Code := { maxStack := 2, maxLocals := 4, code := code, exceptionTable := #[], attributes := #[] }
def k1m1 : Method := { name := "law", desc := "(I)Z", sig := { parameters := [.int], returnType := some .boolean }, accessFlags := 9, code := some k1c1 }
/-- com/example/weaverbird/weaverbird/apps/KindIsActivityPinLaw -/
def k1 : Class := { plain "com/example/weaverbird/weaverbird/apps/KindIsActivityPinLaw" (some 0) with
  accessFlags := 49
  interfaces := #[]
  cf := some (fileOf pool1 30 #[] #[{ accessFlags := 2, nameIndex := 5, descriptorIndex := 6, attributes := #[] }, { accessFlags := 9, nameIndex := 34, descriptorIndex := 35, attributes := #[] }] 49 2 #[] #[])
  fields := #[]
  methods := #[k1m0, k1m1]
  instanceTypes := #[]
  staticTypes := #[]
  resolved := Array.replicate 43 none
  statics := none }

def pool2 : Array CpInfo := pool [(1, .class_ 2), (0, u "java/lang/constant/Constable"), (0, .class_ 4), (0, u "java/lang/Object")] 6

/-- java/lang/constant/Constable -/
def k2 : Class := { plain "java/lang/constant/Constable" (some 0) with
  accessFlags := 1537
  interfaces := #[]
  cf := some (fileOf pool2 1 #[] #[] 1537 3 #[] #[])
  fields := #[]
  methods := #[]
  instanceTypes := #[]
  staticTypes := #[]
  resolved := Array.replicate 11 none
  statics := none }

def pool3 : Array CpInfo := pool [(1, .class_ 2), (0, u "java/lang/Comparable"), (0, .class_ 4), (0, u "java/lang/Object")] 7

/-- java/lang/Comparable -/
def k3 : Class := { plain "java/lang/Comparable" (some 0) with
  accessFlags := 1537
  interfaces := #[]
  cf := some (fileOf pool3 1 #[] #[] 1537 3 #[] #[])
  fields := #[]
  methods := #[]
  instanceTypes := #[]
  staticTypes := #[]
  resolved := Array.replicate 12 none
  statics := none }

def pool4 : Array CpInfo := pool [(1, .class_ 2), (0, u "java/io/Serializable"), (0, .class_ 4), (0, u "java/lang/Object")] 2

/-- java/io/Serializable -/
def k4 : Class := { plain "java/io/Serializable" (some 0) with
  accessFlags := 1537
  interfaces := #[]
  cf := some (fileOf pool4 1 #[] #[] 1537 3 #[] #[])
  fields := #[]
  methods := #[]
  instanceTypes := #[]
  staticTypes := #[]
  resolved := Array.replicate 7 none
  statics := none }

def pool5 : Array CpInfo := pool [(2, .class_ 4), (1, u "java/lang/Enum"), (0, u "name"), (0, u "Ljava/lang/String;"), (2, u "ordinal"), (0, u "I"), (1, .class_ 14), (1, u "java/lang/Object"), (4, u "hash"), (86, .class_ 108), (1, u "java/lang/Enum$EnumDesc"), (2, .class_ 112), (0, u "java/lang/constant/Constable"), (0, .class_ 114), (0, u "java/lang/Comparable"), (0, .class_ 116), (0, u "java/io/Serializable")] 87

/-- java/lang/Enum -/
def k5 : Class := { plain "java/lang/Enum" (some 0) with
  accessFlags := 1057
  interfaces := #[2, 3, 4]
  cf := some (fileOf pool5 2 #[.nestMembers #[106]] #[] 1057 12 #[111, 113, 115] #[{ accessFlags := 18, nameIndex := 5, descriptorIndex := 6, attributes := #[] }, { accessFlags := 18, nameIndex := 9, descriptorIndex := 10, attributes := #[] }, { accessFlags := 2, nameIndex := 19, descriptorIndex := 10, attributes := #[] }])
  fields := #[{ name := "name", type := (.object "java/lang/String"), accessFlags := 18, slot := 0, constantValue := 0 }, { name := "ordinal", type := .int, accessFlags := 18, slot := 1, constantValue := 0 }, { name := "hash", type := .int, accessFlags := 2, slot := 2, constantValue := 0 }]
  methods := #[]
  instanceTypes := #[(.object "java/lang/String"), .int, .int]
  staticTypes := #[]
  resolved := Array.replicate 204 none
  statics := none }

def pool6 : Array CpInfo := pool [(1, .class_ 2), (0, u "com/example/weaverbird/weaverbird/apps/Component$Kind"), (0, .fieldref 1 4), (0, .nameAndType 5 6), (0, u "ACTIVITY"), (0, u "Lcom/example/weaverbird/weaverbird/apps/Component$Kind;"), (0, .fieldref 1 8), (0, .nameAndType 9 6), (0, u "ACTIVITY_ALIAS"), (2, u "SERVICE"), (2, u "RECEIVER"), (2, u "PROVIDER"), (2, u "$VALUES"), (0, u "[Lcom/example/weaverbird/weaverbird/apps/Component$Kind;"), (6, .class_ 31), (1, u "java/lang/Enum"), (8, u "element"), (0, u "Ljava/lang/String;"), (48, u "isActivity"), (0, u "()Z"), (10, .class_ 103), (0, u "com/example/weaverbird/weaverbird/apps/Component")] 2

def k6c0 : Code := { maxStack := 2, maxLocals := 1, code := prog_12_method_5_code, exceptionTable := #[], attributes := #[] }
def k6m0 : Method := { name := "isActivity", desc := "()Z", sig := { parameters := [], returnType := some .boolean }, accessFlags := 1, code := some k6c0 }
/-- com/example/weaverbird/weaverbird/apps/Component$Kind -/
def k6 : Class := { plain "com/example/weaverbird/weaverbird/apps/Component$Kind" (some 5) with
  accessFlags := 16433
  interfaces := #[]
  cf := some (fileOf pool6 1 #[.nestHost 102] #[{ accessFlags := 1, nameIndex := 90, descriptorIndex := 91, attributes := #[] }] 16433 29 #[] #[{ accessFlags := 16409, nameIndex := 5, descriptorIndex := 6, attributes := #[] }, { accessFlags := 16409, nameIndex := 9, descriptorIndex := 6, attributes := #[] }, { accessFlags := 16409, nameIndex := 12, descriptorIndex := 6, attributes := #[] }, { accessFlags := 16409, nameIndex := 15, descriptorIndex := 6, attributes := #[] }, { accessFlags := 16409, nameIndex := 18, descriptorIndex := 6, attributes := #[] }, { accessFlags := 18, nameIndex := 40, descriptorIndex := 41, attributes := #[] }, { accessFlags := 4122, nameIndex := 21, descriptorIndex := 22, attributes := #[] }])
  fields := #[{ name := "ACTIVITY", type := (.object "com/example/weaverbird/weaverbird/apps/Component$Kind"), accessFlags := 16409, slot := 0, constantValue := 0 }, { name := "ACTIVITY_ALIAS", type := (.object "com/example/weaverbird/weaverbird/apps/Component$Kind"), accessFlags := 16409, slot := 1, constantValue := 0 }, { name := "SERVICE", type := (.object "com/example/weaverbird/weaverbird/apps/Component$Kind"), accessFlags := 16409, slot := 2, constantValue := 0 }, { name := "RECEIVER", type := (.object "com/example/weaverbird/weaverbird/apps/Component$Kind"), accessFlags := 16409, slot := 3, constantValue := 0 }, { name := "PROVIDER", type := (.object "com/example/weaverbird/weaverbird/apps/Component$Kind"), accessFlags := 16409, slot := 4, constantValue := 0 }, { name := "element", type := (.object "java/lang/String"), accessFlags := 18, slot := 3, constantValue := 0 }, { name := "$VALUES", type := (.array (.object "com/example/weaverbird/weaverbird/apps/Component$Kind")), accessFlags := 4122, slot := 5, constantValue := 0 }]
  methods := #[k6m0]
  instanceTypes := #[(.object "java/lang/String"), .int, .int, (.object "java/lang/String")]
  staticTypes := #[(.object "com/example/weaverbird/weaverbird/apps/Component$Kind"), (.object "com/example/weaverbird/weaverbird/apps/Component$Kind"), (.object "com/example/weaverbird/weaverbird/apps/Component$Kind"), (.object "com/example/weaverbird/weaverbird/apps/Component$Kind"), (.object "com/example/weaverbird/weaverbird/apps/Component$Kind"), (.array (.object "com/example/weaverbird/weaverbird/apps/Component$Kind"))]
  resolved := Array.replicate 106 none
  statics := some 0 }

def pool7 : Array CpInfo := pool [(1, u "java/lang/Cloneable"), (0, .class_ 1), (0, u "java/lang/Object"), (0, .class_ 3)] 3

/-- java/lang/Cloneable -/
def k7 : Class := { plain "java/lang/Cloneable" (some 0) with
  accessFlags := 1537
  interfaces := #[]
  cf := some (fileOf pool7 2 #[] #[] 1537 4 #[] #[])
  fields := #[]
  methods := #[]
  instanceTypes := #[]
  staticTypes := #[]
  resolved := Array.replicate 8 none
  statics := none }

/-- the primitive byte -/
def k8 : Class := { plain "byte" none with kind := .primitive 'B', accessFlags := 0x411 }
/-- [B -/
def k9 : Class := { plain "[B" (some 0) with kind := .array 8 .byte, interfaces := #[7, 4], accessFlags := 1041 }

/-- the primitive int -/
def k10 : Class := { plain "int" none with kind := .primitive 'I', accessFlags := 0x411 }
/-- [I -/
def k11 : Class := { plain "[I" (some 0) with kind := .array 10 .int, interfaces := #[7, 4], accessFlags := 1041 }

def heap : Heap := #[{ cls := 6, slots := #[.ref 1, .ref 3, .ref 5, .ref 2, .ref 4, .null], vm := .statics 6 },
  { cls := 6, slots := #[.null, .int 0, .int 0, .null], vm := .none },
  { cls := 6, slots := #[.null, .int 3, .int 0, .null], vm := .none },
  { cls := 6, slots := #[.null, .int 1, .int 0, .null], vm := .none },
  { cls := 6, slots := #[.null, .int 4, .int 0, .null], vm := .none },
  { cls := 6, slots := #[.null, .int 2, .int 0, .null], vm := .none }]
def classes : Array Class := #[k0, k1, k2, k3, k4, k5, k6, k7, k8, k9, k10, k11]
def interned : List (Array UInt16 × Addr) := []
def slotsUsed : Nat := 26
def theMethod : MethodId := ⟨1, 1⟩
def args0 : Array Value := #[.int 1]
def aboutOver (below : List Frame) : State where
  vm := { classes := classes, interned := interned.toArray }
  heap := heap
  slotsUsed := slotsUsed
  threads := #[{ frames := .invoking theMethod args0 :: below }]
def below0 : List Frame := [.native { method := ⟨0, 0⟩, args := #[] }]
def about1 : State := aboutOver below0
def p0 : Program := .bare "" "" ""
def e0 : Env := launch0.env 0 0 0
theorem w_frames : about1.frames = Frame.invoking theMethod args0 :: below0 := rfl
set_option maxRecDepth 65536 in
theorem w_args : argsFit about1.vm theMethod args0 = true := by decide +kernel
set_option maxRecDepth 65536 in
theorem w_heap : heapFits about1 = true := by decide +kernel
set_option maxRecDepth 65536 in
theorem w_runnable : about1.curStatus? = some .runnable := by decide +kernel
set_option maxRecDepth 65536 in
theorem w_alone : about1.alone = true := by decide +kernel
set_option maxRecDepth 65536 in
theorem w_named : about1.methodNamed? x = some theMethod := by decide +kernel
set_option maxRecDepth 65536 in
theorem w_hears : about1.hears theMethod below0 = true := by decide +kernel
set_option maxRecDepth 65536 in
theorem w_ripe : about1.ripe theMethod args0 below0 = true := by decide +kernel
theorem w_running : about1.status = .running := rfl
set_option maxRecDepth 65536 in
theorem w_room : about1.hasRoom e0.platform room_1 = true :=
  launch0.hasRoom_least _ room_1 (by decide +kernel) (by decide +kernel) (by decide +kernel) (by decide +kernel) (by decide +kernel) (by decide +kernel)
theorem allAtoms_all (ts : List Jvm.Cond) (a : Array Jvm.Value) (st : Jvm.State) : (allAtoms ts).before a st = ts.all (fun c => c.before a st) := by
  induction ts with
  | nil => rfl
  | cons c t ih =>
    show (Jvm.Cond.and c (allAtoms t)).before a st = _
    rw [Jvm.Cond.before_and, ih, List.all_cons]
def words1 : List Jvm.Cond := Jvm.Cond.code x code maxLocals ret :: tables_1
/-- a 'code' word, met by the world's own term for the bytes: nothing is compared byte by byte -/
theorem code_word {y : MethodName} {bytes : ByteArray} {mx : Nat} {rt : Option FieldType} {a : Array Value} {s : State} {m : MethodId} {meth : Method} {c : Code} (h1 : s.methodNamed? y = some m) (h2 : s.vm.method? m = some meth) (h3 : meth.code = some c) (h4 : c.code = bytes)
    (h5 : (c.maxLocals == mx && c.exceptionTable.isEmpty && decide (c.maxStack ≤ mostOperands) && decide (meth.sig.returnType = rt) && !meth.locks && decide (parseMethodDescriptor y.desc = some meth.sig)) = true) : (Jvm.Cond.code y bytes mx rt).before a s = true := by
  simp only [Bool.and_eq_true, beq_iff_eq, Bool.not_eq_true', decide_eq_true_eq] at h5
  obtain ⟨⟨⟨⟨⟨g1, g2⟩, g3⟩, g4⟩, g5⟩, g6⟩ := h5
  simp [Cond.before, Cond.holds, Cond.value, h1, h2, h3, h4, g1, g2, g3, g4, g5, g6]
def isCode : Jvm.Cond → Bool
  | .code _ _ _ _ => true
  | _ => false
theorem all_split {L : List Jvm.Cond} {P : Jvm.Cond → Bool} (h1 : L.all (fun c => isCode c || P c) = true) (h2 : ∀ c ∈ L.filter isCode, P c = true) : L.all P = true := by
  refine List.all_eq_true.mpr fun c hc => ?_
  have h := List.all_eq_true.mp h1 c hc
  rcases Bool.eq_false_or_eq_true (isCode c) with hi | hi
  · exact h2 c (List.mem_filter.mpr ⟨hc, hi⟩)
  · simpa [hi] using h
set_option maxRecDepth 65536 in
theorem w_c0 : (Jvm.Cond.code x code maxLocals ret).before args0 about1 = true := code_word (m := ⟨1, 1⟩) (meth := k1m1) (c := k1c1) (by decide +kernel) rfl rfl rfl (by decide +kernel)
set_option maxRecDepth 65536 in
theorem w_c1 : (Jvm.Cond.code ({ cls := "com/example/weaverbird/weaverbird/apps/Component$Kind", name := "isActivity", desc := "()Z" } : Jvm.MethodName) prog_12_method_5_code (1 : Nat) (Option.some Jvm.ClassFile.FieldType.boolean)).before args0 about1 = true := code_word (m := ⟨6, 0⟩) (meth := k6m0) (c := k6c0) (by decide +kernel) rfl rfl rfl (by decide +kernel)
def codes1 : List Jvm.Cond := [Jvm.Cond.code x code maxLocals ret, Jvm.Cond.code ({ cls := "com/example/weaverbird/weaverbird/apps/Component$Kind", name := "isActivity", desc := "()Z" } : Jvm.MethodName) prog_12_method_5_code (1 : Nat) (Option.some Jvm.ClassFile.FieldType.boolean)]
set_option maxRecDepth 65536 in
theorem codes_eq : words1.filter isCode = codes1 := rfl
theorem w_codes : ∀ c ∈ words1.filter isCode, c.before args0 about1 = true := by
  rw [codes_eq]
  intro c hc
  simp only [codes1, List.mem_cons, List.not_mem_nil, or_false] at hc
  rcases hc with rfl | rfl
  · exact w_c0
  · exact w_c1
set_option maxRecDepth 65536 in
theorem w_t1 : words1.all (fun c => isCode c || c.before args0 about1) = true := by decide +kernel
theorem w_tables : (allAtoms (Jvm.Cond.code x code maxLocals ret :: tables_1)).before args0 about1 = true := by
  rw [allAtoms_all]
  show words1.all (fun c => c.before args0 about1) = true
  refine all_split ?_ w_codes
  rw [w_t1]
set_option maxRecDepth 65536 in
theorem w_case : (Jvm.Cond.and given_1 narrow_1).before args0 about1 = true := by decide +kernel
theorem w_applies : (headSpec (Jvm.Cond.code x code maxLocals ret :: tables_1) room_1).applies x e0.platform about1 = true :=
  (Spec.applies_iff w_frames).mpr ⟨w_running, w_runnable, w_alone, w_named, w_hears, w_ripe, w_room, w_tables⟩
theorem atStart : AtStart classFile x code maxLocals ret World_1 tables_1 room_1 Calls_1 rest_1 Pre_1 launch0 p0 e0 about1 theMethod args0 below0 :=
  ⟨lists_1, trivial, launch0.admits_env _ _ _, launch0.least_env, fairChoices_fair.cas, fairChoices_fair.clock, w_frames, w_args, w_heap, w_applies, trivial, trivial, w_case⟩
end start1
theorem witness_1 : WitnessClaimed_1 := ⟨start1.p0, start1.e0, start1.about1, start1.theMethod, start1.args0, start1.below0, start1.atStart⟩
end Jvm.Pilot.@@N@@
