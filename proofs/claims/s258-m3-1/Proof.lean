import JvmDerived
import JvmDerived.Pilot.@@N@@Statement
import JvmDerived.Pilot.@@N@@Code
set_option linter.unusedVariables false
set_option linter.unusedSimpArgs false
namespace Jvm.RoadKit
open Sem ClassFile Op Lib Jvm.Stand Jvm.Free Jvm.LawKit
section New
variable {p : Program} {l : Launch} {e : Env} {R : Room} {s : State} {m : MethodId} {args : Array Value} {below : List Frame} {meth : Method} {c : Code} {T : State} {locs : List Loc} {cells slots : Nat}
theorem retI (X : Stand p l e R s m args below meth c T locs cells slots) (hx : p.tables.exec = Jvm.exec) {pc : Nat} {Ls : Array Slot} {z : Int32} {rest : List Value} (hret : meth.sig.returnType = some .int) (hd : decode c.code pc = .ok (.ireturn, 1)) {fs : List Frame}
    (hl : ∀ (f : JFrame) (acts : List Action), f.method = m → f.locked = none → f.entered = [] → (doReturn e (T.setTop f) acts (some (.int z))).1 = T.setFrames fs) : Steps p.tables e below (T.setTop (mkF m pc Ls (.int z :: rest))) (T.setFrames fs) := by
  have hm' : T.vm.method? m = some meth := X.method'
  have hn : narrow .int (.int z) = .int z := rfl
  show Steps p.tables e below (T.setTop { method := m, pc := pc, locals := Ls, stack := _ :: rest, locked := none }) _
  jvm_step X.here [X.here.top, hx, hd, hm', hret, hn]
  first | (intro acts; rw [hl _ acts rfl rfl rfl]) | rw [hl _ _ rfl rfl rfl]
  exact Steps.refl _
end New
end Jvm.RoadKit
namespace Jvm.Pilot.@@N@@
open Jvm Jvm.ClassFile Sem Op Lib Jvm.Free Jvm.Stand Jvm.LawKit Jvm.RoadKit Bundle Jvm.Pilot.@@N@@.Jvm.D
theorem own_eqint {t : Term} {n : Int32} {args : Array Value} {s : State} (h : (Cond.eq t (.int n)).value args s none s [] = some true) : t.eval args s none [] s = some (.int n) := by
  have hn : (Term.int n).eval args s none [] s = some (.int n) := rfl
  simp only [Cond.value] at h
  rw [hn] at h
  cases hv : t.eval args s none [] s with
  | none => simp [hv] at h
  | some v =>
    cases v with
    | int x => simp [hv] at h; rw [h]
    | _ => simp [hv] at h
theorem pn_0 : plainName "com/example/inline_monitor/inlinemonitor/model/Verdict" = true := by first | (simp [plainName, overriddenIn]; done) | decide +kernel
theorem d1_0 : decode prog_49_method_5_code 0 = .ok (.aload_n 0, 1) := by decide +kernel
theorem d1_1 : decode prog_49_method_5_code 1 = .ok (.getstatic 3, 3) := by decide +kernel
theorem d1_4 : decode prog_49_method_5_code 4 = .ok (.if_acmp .eq 7, 3) := by decide +kernel
theorem d1_7 : decode prog_49_method_5_code 7 = .ok (.iconst 1, 1) := by decide +kernel
theorem d1_8 : decode prog_49_method_5_code 8 = .ok (.goto 4, 3) := by decide +kernel
theorem d1_11 : decode prog_49_method_5_code 11 = .ok (.iconst 0, 1) := by decide +kernel
theorem d1_12 : decode prog_49_method_5_code 12 = .ok (.ireturn, 1) := by decide +kernel
theorem ef_1 (m : MethodId) (x0 : Addr) : entryFrame m #[(.ref x0)] 1 = mkF m 0 #[.val (.ref x0)] [] := by first | (simp [entryFrame, mkF, argsToLocals, Value.category]; done) | rfl
def f1 (a1 : Addr) (w_INCONCLUSIVE : Addr) : Int32 := (if a1 = w_INCONCLUSIVE then (0 : Int32) else (1 : Int32))
def Q1 (Z : State) (a1 : Addr) (w_INCONCLUSIVE : Addr) (h0 : Heap) (n0 : Nat) (v : Option Value) (h : Heap) (L : List Loc) : Prop := v = some (.int (f1 a1 w_INCONCLUSIVE)) ∧ Fr n0 L ∧ h = h0
set_option maxRecDepth 65536 in
set_option maxHeartbeats 40000000 in
theorem rm1 (l : Launch) (Z : State) (a0 : Array Value) (hw : ∀ d ∈ tables_1, d.before a0 Z = true) (ws : List Jvm.Cond) (a1 : Addr) (w_INCONCLUSIVE : Addr) (h0 : Heap) (n0 : Nat) (Z0 : n0 ≤ h0.size) (S_INCONCLUSIVE : Sta Z h0 "com/example/inline_monitor/inlinemonitor/model/Verdict" "INCONCLUSIVE" "Lcom/example/inline_monitor/inlinemonitor/model/Verdict;" (.ref w_INCONCLUSIVE)) :
    MetFree l (⟨"com/example/inline_monitor/inlinemonitor/model/Verdict", "isFinal", "()Z"⟩ : MethodName) (head1 (Jvm.Cond.code (⟨"com/example/inline_monitor/inlinemonitor/model/Verdict", "isFinal", "()Z"⟩ : MethodName) prog_49_method_5_code 1 (some .boolean) :: ws) ({ frames := 0, cells := 0, slots := 0, locals := 0 } : Room)) (fun a U => a = #[(.ref a1)] ∧ Z.Warmed39 U.vm ∧ U.heap = h0) (fun _ _ _ _ _ => True) (fun _ U o U' => ∃ v L, o = .returned v ∧ Q1 Z a1 w_INCONCLUSIVE h0 n0 v U'.heap L ∧ FrameEnd U o U' L ({ frames := 0, cells := 0, slots := 0, locals := 0 } : Room).cells ({ frames := 0, cells := 0, slots := 0, locals := 0 } : Room).slots) := by
  refine MetFree.of_bodySF (plainFor_of_name pn_0) hisR ?_
  intro p e s m args below meth c s₁ Bd hml0 hP hK
  obtain ⟨rfl, hZ, hh⟩ := hP
  have hx := Bd.exec
  have hby := Bd.bytes
  have hml : c.maxLocals = 1 := hml0
  have hown : s.vm.findClass "com/example/inline_monitor/inlinemonitor/model/Verdict" = some m.cls := findClass_of_methodNamed Bd.named
  have hnm := (name_of_methodNamed Bd.named Bd.method).1
  have X0 : Stand p l e ({ frames := 0, cells := 0, slots := 0, locals := 0 } : Room) s m #[(.ref a1)] below meth c s₁ [] 0 0 := Stand.of_body Bd
  have e0 : s₁.heap = h0 := by rw [← hh, Bd.state]; rfl
  have N0 := Fr.nil n0
  have pre0 : ∀ t, Steps p.tables e below (s₁.setTop (mkF m 0 #[.val (.ref a1)] [])) t → Steps p.tables e below (s₁.setTop (entryFrame m #[(.ref a1)] 1)) t := fun t k => castTop (ef_1 m a1) k
  obtain ⟨T2, X2, e2, st2⟩ := getS2 X0 hx hZ hown (host := "") (Or.inl (hw _ (List.mem_of_getElem? (i := 9) rfl))) Via.refl e0 S_INCONCLUSIVE (g := (mkF m 1 #[.val (.ref a1)] [(.ref a1)])) rfl (hb hby d1_1)
  have pre1 : ∀ t, Steps p.tables e below (T2.setTop (mkF m 4 #[.val (.ref a1)] [(.ref w_INCONCLUSIVE), (.ref a1)])) t → Steps p.tables e below (s₁.setTop (entryFrame m #[(.ref a1)] 1)) t := by
    intro t k
    refine pre0 t ?_
    show Steps p.tables e below (s₁.setTop (mkF m 0 #[.val (.ref a1)] [])) _
    refine XS.aloadN X0.here hx rfl (hb hby d1_0) rfl rfl ?_
    show Steps p.tables e below (s₁.setTop (mkF m 1 #[.val (.ref a1)] [(.ref a1)])) _
    refine st2 _ ?_
    exact k
  by_cases hc4 : a1 = w_INCONCLUSIVE
  · have eq2 : (f1 a1 w_INCONCLUSIVE) = (0 : Int32) := by unfold f1; simp only [if_pos hc4]
    obtain ⟨fs, hr, hrun, hended, hW, hsame⟩ := X2.leave (v := some (.int (0 : Int32))) (fun h => by rw [Bd.returns] at h; cases h)
    refine ⟨_, _, pre1 _ ?_, hrun, hended, _, _, rfl, ?_, ⟨_, rfl⟩, hW, hsame.mono (by decide) (by decide)⟩
    · show Steps p.tables e below (T2.setTop (mkF m 4 #[.val (.ref a1)] [(.ref w_INCONCLUSIVE), (.ref a1)])) _
      refine Jvm.RoadKit.acmp (g := (mkF m 4 #[.val (.ref a1)] [(.ref w_INCONCLUSIVE), (.ref a1)])) X2 hx rfl rfl rfl (pc0 := 4) (pc' := 11) (same := true) rfl (hb hby d1_4) rfl (decide_eq_true (congrArg Value.ref hc4)) (by decide) (by decide) ?_
      show Steps p.tables e below (T2.setTop (mkF m 11 #[.val (.ref a1)] [])) _
      refine XS.iconst X2.here hx rfl (hb hby d1_11) ?_
      show Steps p.tables e below (T2.setTop (mkF m 12 #[.val (.ref a1)] [(.int (0 : Int32))])) _
      exact retN X2 hx (t := .boolean) Bd.returns (by simp) (hb hby d1_12) hr
    · show Q1 Z a1 w_INCONCLUSIVE h0 n0 _ T2.heap _
      rw [e2]
      exact ⟨by rw [eq2], N0, rfl⟩
  · have eq3 : (f1 a1 w_INCONCLUSIVE) = (1 : Int32) := by unfold f1; simp only [if_neg hc4]
    obtain ⟨fs, hr, hrun, hended, hW, hsame⟩ := X2.leave (v := some (.int (1 : Int32))) (fun h => by rw [Bd.returns] at h; cases h)
    refine ⟨_, _, pre1 _ ?_, hrun, hended, _, _, rfl, ?_, ⟨_, rfl⟩, hW, hsame.mono (by decide) (by decide)⟩
    · show Steps p.tables e below (T2.setTop (mkF m 4 #[.val (.ref a1)] [(.ref w_INCONCLUSIVE), (.ref a1)])) _
      refine Jvm.RoadKit.acmp (g := (mkF m 4 #[.val (.ref a1)] [(.ref w_INCONCLUSIVE), (.ref a1)])) X2 hx rfl rfl rfl (pc0 := 4) (pc' := 7) (same := false) rfl (hb hby d1_4) rfl (decide_eq_false fun q => hc4 (Value.ref.inj q)) (by decide) (by decide) ?_
      show Steps p.tables e below (T2.setTop (mkF m 7 #[.val (.ref a1)] [])) _
      refine XS.iconst X2.here hx rfl (hb hby d1_7) ?_
      show Steps p.tables e below (T2.setTop (mkF m 8 #[.val (.ref a1)] [(.int (1 : Int32))])) _
      refine XS.goto X2.here hx rfl (pc0 := 8) (pc' := 12) rfl (hb hby d1_8) (by decide) (by decide) ?_
      show Steps p.tables e below (T2.setTop (mkF m 12 #[.val (.ref a1)] [(.int (1 : Int32))])) _
      exact retN X2 hx (t := .boolean) Bd.returns (by simp) (hb hby d1_12) hr
    · show Q1 Z a1 w_INCONCLUSIVE h0 n0 _ T2.heap _
      rw [e2]
      exact ⟨by rw [eq3], N0, rfl⟩
theorem pd_0 : parseMethodDescriptor "()Z" = some ⟨[], some .boolean⟩ := by decide +kernel
theorem pn_1 : plainName "com/example/inline_monitor/inlinemonitor/model/VerdictIsFinalPinLaw" = true := by first | (simp [plainName, overriddenIn]; done) | decide +kernel
theorem ef_0 (m : MethodId) (x0 : Int32) : entryFrame m #[(.int x0)] maxLocals = mkF m 0 #[.val (.int x0), .unset, .unset, .unset] [] := by first | (simp [entryFrame, mkF, argsToLocals, Value.category, maxLocals]; done) | rfl
def f0_v5 (p1 : Int32) (w_INCONCLUSIVE : Addr) (w_VIOLATED : Addr) (w_SATISFIED : Addr) : Int32 := ((p1 &&& (2147483647 : Int32)) - ((p1 &&& (2147483647 : Int32)) / (3 : Int32)) * (3 : Int32))
def f0 (p1 : Int32) (w_INCONCLUSIVE : Addr) (w_VIOLATED : Addr) (w_SATISFIED : Addr) : Int32 := (if (f0_v5 p1 w_INCONCLUSIVE w_VIOLATED w_SATISFIED) = (0 : Int32) then (if (f1 w_INCONCLUSIVE w_INCONCLUSIVE) = (0 : Int32) then (1 : Int32) else (0 : Int32)) else (if (f0_v5 p1 w_INCONCLUSIVE w_VIOLATED w_SATISFIED) = (1 : Int32) then (if (f1 w_SATISFIED w_INCONCLUSIVE) = (1 : Int32) then (1 : Int32) else (0 : Int32)) else (if (f1 w_VIOLATED w_INCONCLUSIVE) = (1 : Int32) then (1 : Int32) else (0 : Int32))))
def Q0 (Z : State) (p1 : Int32) (w_INCONCLUSIVE : Addr) (w_VIOLATED : Addr) (w_SATISFIED : Addr) (h0 : Heap) (n0 : Nat) (v : Option Value) (h : Heap) (L : List Loc) : Prop := v = some (.int (f0 p1 w_INCONCLUSIVE w_VIOLATED w_SATISFIED)) ∧ Fr n0 L ∧ True
set_option maxRecDepth 65536 in
set_option maxHeartbeats 40000000 in
theorem rm0 (l : Launch) (Z : State) (a0 : Array Value) (hw : ∀ d ∈ tables_1, d.before a0 Z = true) (ws : List Jvm.Cond) (p1 : Int32) (w_INCONCLUSIVE : Addr) (w_VIOLATED : Addr) (w_SATISFIED : Addr) (h0 : Heap) (n0 : Nat) (Z0 : n0 ≤ h0.size) (S_INCONCLUSIVE : Sta Z h0 "com/example/inline_monitor/inlinemonitor/model/Verdict" "INCONCLUSIVE" "Lcom/example/inline_monitor/inlinemonitor/model/Verdict;" (.ref w_INCONCLUSIVE)) (S_VIOLATED : Sta Z h0 "com/example/inline_monitor/inlinemonitor/model/Verdict" "VIOLATED" "Lcom/example/inline_monitor/inlinemonitor/model/Verdict;" (.ref w_VIOLATED)) (S_SATISFIED : Sta Z h0 "com/example/inline_monitor/inlinemonitor/model/Verdict" "SATISFIED" "Lcom/example/inline_monitor/inlinemonitor/model/Verdict;" (.ref w_SATISFIED)) (E_w_INCONCLUSIVE : Exa Z h0 w_INCONCLUSIVE "com/example/inline_monitor/inlinemonitor/model/Verdict") (E_w_VIOLATED : Exa Z h0 w_VIOLATED "com/example/inline_monitor/inlinemonitor/model/Verdict") (E_w_SATISFIED : Exa Z h0 w_SATISFIED "com/example/inline_monitor/inlinemonitor/model/Verdict") :
    MetFree l x (head1 (Jvm.Cond.code x code maxLocals ret :: ws) room_1) (fun a U => a = #[(.int p1)] ∧ Z.Warmed39 U.vm ∧ U.heap = h0) (fun _ _ _ _ _ => True) (fun _ U o U' => ∃ v L, o = .returned v ∧ Q0 Z p1 w_INCONCLUSIVE w_VIOLATED w_SATISFIED h0 n0 v U'.heap L ∧ FrameEnd U o U' L room_1.cells room_1.slots) := by
  refine MetFree.of_bodySF (plainFor_of_name pn_1) hisR ?_
  intro p e s m args below meth c s₁ Bd hml0 hP hK
  obtain ⟨rfl, hZ, hh⟩ := hP
  have hx := Bd.exec
  have hby := Bd.bytes
  have hml : c.maxLocals = 4 := hml0
  have hown : s.vm.findClass "com/example/inline_monitor/inlinemonitor/model/VerdictIsFinalPinLaw" = some m.cls := findClass_of_methodNamed Bd.named
  have hnm := (name_of_methodNamed Bd.named Bd.method).1
  have X0 : Stand p l e room_1 s m #[(.int p1)] below meth c s₁ [] 0 0 := Stand.of_body Bd
  have e0 : s₁.heap = h0 := by rw [← hh, Bd.state]; rfl
  have N0 := Fr.nil n0
  have pre0 : ∀ t, Steps p.tables e below (s₁.setTop (mkF m 0 #[.val (.int p1), .unset, .unset, .unset] [])) t → Steps p.tables e below (s₁.setTop (entryFrame m #[(.int p1)] maxLocals)) t := fun t k => castTop (ef_0 m p1) k
  have pre1 : ∀ t, Steps p.tables e below (s₁.setTop (mkF m 8 #[.val (.int p1), .val (.int (f0_v5 p1 w_INCONCLUSIVE w_VIOLATED w_SATISFIED)), .unset, .unset] [(.int (f0_v5 p1 w_INCONCLUSIVE w_VIOLATED w_SATISFIED))])) t → Steps p.tables e below (s₁.setTop (entryFrame m #[(.int p1)] maxLocals)) t := by
    intro t k
    refine pre0 t ?_
    show Steps p.tables e below (s₁.setTop (mkF m 0 #[.val (.int p1), .unset, .unset, .unset] [])) _
    refine XS.iloadN X0.here hx rfl (hb hby at_0) rfl ?_
    show Steps p.tables e below (s₁.setTop (mkF m 1 #[.val (.int p1), .unset, .unset, .unset] [(.int p1)])) _
    refine X0.ldcInt hx hown (mvT hZ (hw _ (List.mem_of_getElem? (i := 0) rfl))) (g := (mkF m 1 #[.val (.int p1), .unset, .unset, .unset] [(.int p1)])) rfl (hb hby at_1) _ ?_
    show Steps p.tables e below (s₁.setTop (mkF m 3 #[.val (.int p1), .unset, .unset, .unset] [(.int (2147483647 : Int32)), (.int p1)])) _
    refine XS.iand X0.here hx rfl (hb hby at_3) rfl ?_
    show Steps p.tables e below (s₁.setTop (mkF m 4 #[.val (.int p1), .unset, .unset, .unset] [(.int (p1 &&& (2147483647 : Int32)))])) _
    refine XS.iconst X0.here hx rfl (hb hby at_4) ?_
    show Steps p.tables e below (s₁.setTop (mkF m 5 #[.val (.int p1), .unset, .unset, .unset] [(.int (3 : Int32)), (.int (p1 &&& (2147483647 : Int32)))])) _
    refine XS.irem X0.here hx rfl (hb hby at_5) rfl (by decide) ?_
    show Steps p.tables e below (s₁.setTop (mkF m 6 #[.val (.int p1), .unset, .unset, .unset] [(.int (f0_v5 p1 w_INCONCLUSIVE w_VIOLATED w_SATISFIED))])) _
    refine XS.istoreN X0.here hx rfl (hb hby at_6) rfl (l' := #[.val (.int p1), .val (.int (f0_v5 p1 w_INCONCLUSIVE w_VIOLATED w_SATISFIED)), .unset, .unset]) rfl ?_
    show Steps p.tables e below (s₁.setTop (mkF m 7 #[.val (.int p1), .val (.int (f0_v5 p1 w_INCONCLUSIVE w_VIOLATED w_SATISFIED)), .unset, .unset] [])) _
    refine XS.iloadN X0.here hx rfl (hb hby at_7) rfl ?_
    exact k
  by_cases hc8 : (f0_v5 p1 w_INCONCLUSIVE w_VIOLATED w_SATISFIED) = (0 : Int32)
  · obtain ⟨T5, X5, e5, st5⟩ := getS2 X0 hx hZ hown (host := "") (Or.inl (hw _ (List.mem_of_getElem? (i := 1) rfl))) Via.refl e0 S_INCONCLUSIVE (g := (mkF m 11 #[.val (.int p1), .val (.int (f0_v5 p1 w_INCONCLUSIVE w_VIOLATED w_SATISFIED)), .unset, .unset] [])) rfl (hb hby at_11)
    obtain ⟨cq6, kq6, q6a, q6b, q6c⟩ := isOf hZ e5 E_w_INCONCLUSIVE
    obtain ⟨_, _, ⟨T6, L6, k6, n6⟩, -, X6, ⟨Lc6, hQ6, l6, y6, z6⟩, st6⟩ := X5.virtualBack hx (y := (⟨"com/example/inline_monitor/inlinemonitor/model/Verdict", "isFinal", "()Z"⟩ : MethodName)) (z := (⟨"com/example/inline_monitor/inlinemonitor/model/Verdict", "isFinal", "()Z"⟩ : MethodName)) hown (mvT hZ (hw _ (List.mem_of_getElem? (i := 4) rfl))) (mvT hZ (hw _ (List.mem_of_getElem? (i := 5) rfl))) (notFace_of_selects (args := #[]) (mvT hZ (hw _ (List.mem_of_getElem? (i := 7) rfl)))) (mvT hZ (hw _ (List.mem_of_getElem? (i := 7) rfl))) (mvT hZ (hw _ (List.mem_of_getElem? (i := 6) rfl))) (by decide) (backOf (W := 0) (rm1 l Z a0 hw [] w_INCONCLUSIVE w_INCONCLUSIVE h0 n0 Z0 S_INCONCLUSIVE) hZ (hw _ (List.mem_of_getElem? (i := 8) rfl)) (hw _ (List.mem_of_getElem? (i := 2) rfl)) (by decide) (by decide)) q6a q6c (g := (mkF m 41 #[.val (.int p1), .val (.int (f0_v5 p1 w_INCONCLUSIVE w_VIOLATED w_SATISFIED)), .val (.ref w_INCONCLUSIVE), .val (.int (0 : Int32))] [(.ref w_INCONCLUSIVE)])) rfl (by rw [hml]; rfl) (Steps.refl _) (argsL := []) (rest := []) (lenOf pd_0 rfl) rfl (by show 2 * 0 + _ ≤ _; exact Nat.le_of_eq rfl) (hb hby at_41) (fun _ _ => ⟨rfl, e5, (by decide : 0 + 0 ≤ _), (by decide : 0 + 0 ≤ _)⟩)
    dsimp only [Pt.U, Pt.locs, Pt.cells, Pt.slots] at X6 l6 y6 z6 st6 hQ6
    subst l6 y6 z6
    obtain ⟨rfl, N6q, e6⟩ := hQ6
    have N6 := Fr.app N0 N6q
    have pre2 : ∀ t, Steps p.tables e below (T6.setTop (mkF m 45 #[.val (.int p1), .val (.int (f0_v5 p1 w_INCONCLUSIVE w_VIOLATED w_SATISFIED)), .val (.ref w_INCONCLUSIVE), .val (.int (0 : Int32))] [(.int (0 : Int32)), (.int (f1 w_INCONCLUSIVE w_INCONCLUSIVE))])) t → Steps p.tables e below (s₁.setTop (entryFrame m #[(.int p1)] maxLocals)) t := by
      intro t k
      refine pre1 t ?_
      show Steps p.tables e below (s₁.setTop (mkF m 8 #[.val (.int p1), .val (.int (f0_v5 p1 w_INCONCLUSIVE w_VIOLATED w_SATISFIED)), .unset, .unset] [(.int (f0_v5 p1 w_INCONCLUSIVE w_VIOLATED w_SATISFIED))])) _
      refine XS.ifNo X0.here hx rfl (hb hby at_8) rfl ((if0 _ _).trans (teq hc8).2) ?_
      show Steps p.tables e below (s₁.setTop (mkF m 11 #[.val (.int p1), .val (.int (f0_v5 p1 w_INCONCLUSIVE w_VIOLATED w_SATISFIED)), .unset, .unset] [])) _
      refine st5 _ ?_
      show Steps p.tables e below (T5.setTop (mkF m 14 #[.val (.int p1), .val (.int (f0_v5 p1 w_INCONCLUSIVE w_VIOLATED w_SATISFIED)), .unset, .unset] [(.ref w_INCONCLUSIVE)])) _
      refine XS.astoreN X5.here hx rfl (hb hby at_14) rfl rfl (l' := #[.val (.int p1), .val (.int (f0_v5 p1 w_INCONCLUSIVE w_VIOLATED w_SATISFIED)), .val (.ref w_INCONCLUSIVE), .unset]) rfl ?_
      show Steps p.tables e below (T5.setTop (mkF m 15 #[.val (.int p1), .val (.int (f0_v5 p1 w_INCONCLUSIVE w_VIOLATED w_SATISFIED)), .val (.ref w_INCONCLUSIVE), .unset] [])) _
      refine XS.iconst X5.here hx rfl (hb hby at_15) ?_
      show Steps p.tables e below (T5.setTop (mkF m 16 #[.val (.int p1), .val (.int (f0_v5 p1 w_INCONCLUSIVE w_VIOLATED w_SATISFIED)), .val (.ref w_INCONCLUSIVE), .unset] [(.int (0 : Int32))])) _
      refine XS.istoreN X5.here hx rfl (hb hby at_16) rfl (l' := #[.val (.int p1), .val (.int (f0_v5 p1 w_INCONCLUSIVE w_VIOLATED w_SATISFIED)), .val (.ref w_INCONCLUSIVE), .val (.int (0 : Int32))]) rfl ?_
      show Steps p.tables e below (T5.setTop (mkF m 17 #[.val (.int p1), .val (.int (f0_v5 p1 w_INCONCLUSIVE w_VIOLATED w_SATISFIED)), .val (.ref w_INCONCLUSIVE), .val (.int (0 : Int32))] [])) _
      refine XS.goto X5.here hx rfl (pc0 := 17) (pc' := 40) rfl (hb hby at_17) (by decide) (by decide) ?_
      show Steps p.tables e below (T5.setTop (mkF m 40 #[.val (.int p1), .val (.int (f0_v5 p1 w_INCONCLUSIVE w_VIOLATED w_SATISFIED)), .val (.ref w_INCONCLUSIVE), .val (.int (0 : Int32))] [])) _
      refine XS.aloadN X5.here hx rfl (hb hby at_40) rfl rfl ?_
      show Steps p.tables e below (T5.setTop (mkF m 41 #[.val (.int p1), .val (.int (f0_v5 p1 w_INCONCLUSIVE w_VIOLATED w_SATISFIED)), .val (.ref w_INCONCLUSIVE), .val (.int (0 : Int32))] [(.ref w_INCONCLUSIVE)])) _
      refine st6.trans ?_
      show Steps p.tables e below (T6.setTop (mkF m 44 #[.val (.int p1), .val (.int (f0_v5 p1 w_INCONCLUSIVE w_VIOLATED w_SATISFIED)), .val (.ref w_INCONCLUSIVE), .val (.int (0 : Int32))] [(.int (f1 w_INCONCLUSIVE w_INCONCLUSIVE))])) _
      refine XS.iloadN X6.here hx rfl (hb hby at_44) rfl ?_
      exact k
    by_cases hc45 : (f1 w_INCONCLUSIVE w_INCONCLUSIVE) = (0 : Int32)
    · have eq3 : (f0 p1 w_INCONCLUSIVE w_VIOLATED w_SATISFIED) = (1 : Int32) := by unfold f0; simp only [if_pos hc8, if_pos hc45]
      obtain ⟨fs, hr, hrun, hended, hW, hsame⟩ := X6.leave (v := some (.int (1 : Int32))) (fun h => by rw [Bd.returns] at h; cases h)
      refine ⟨_, _, pre2 _ ?_, hrun, hended, _, _, rfl, ?_, ⟨_, rfl⟩, hW, hsame.mono (by decide) (by decide)⟩
      · show Steps p.tables e below (T6.setTop (mkF m 45 #[.val (.int p1), .val (.int (f0_v5 p1 w_INCONCLUSIVE w_VIOLATED w_SATISFIED)), .val (.ref w_INCONCLUSIVE), .val (.int (0 : Int32))] [(.int (0 : Int32)), (.int (f1 w_INCONCLUSIVE w_INCONCLUSIVE))])) _
        refine XS.icmpNo X6.here hx rfl (hb hby at_45) rfl (teq hc45).2 ?_
        show Steps p.tables e below (T6.setTop (mkF m 48 #[.val (.int p1), .val (.int (f0_v5 p1 w_INCONCLUSIVE w_VIOLATED w_SATISFIED)), .val (.ref w_INCONCLUSIVE), .val (.int (0 : Int32))] [])) _
        refine XS.iconst X6.here hx rfl (hb hby at_48) ?_
        show Steps p.tables e below (T6.setTop (mkF m 49 #[.val (.int p1), .val (.int (f0_v5 p1 w_INCONCLUSIVE w_VIOLATED w_SATISFIED)), .val (.ref w_INCONCLUSIVE), .val (.int (0 : Int32))] [(.int (1 : Int32))])) _
        refine XS.goto X6.here hx rfl (pc0 := 49) (pc' := 53) rfl (hb hby at_49) (by decide) (by decide) ?_
        show Steps p.tables e below (T6.setTop (mkF m 53 #[.val (.int p1), .val (.int (f0_v5 p1 w_INCONCLUSIVE w_VIOLATED w_SATISFIED)), .val (.ref w_INCONCLUSIVE), .val (.int (0 : Int32))] [(.int (1 : Int32))])) _
        exact retN X6 hx (t := .boolean) Bd.returns (by simp) (hb hby at_53) hr
      · show Q0 Z p1 w_INCONCLUSIVE w_VIOLATED w_SATISFIED h0 n0 _ T6.heap _
        rw [e6]
        exact ⟨by rw [eq3], N6, trivial⟩
    · have eq4 : (f0 p1 w_INCONCLUSIVE w_VIOLATED w_SATISFIED) = (0 : Int32) := by unfold f0; simp only [if_pos hc8, if_neg hc45]
      obtain ⟨fs, hr, hrun, hended, hW, hsame⟩ := X6.leave (v := some (.int (0 : Int32))) (fun h => by rw [Bd.returns] at h; cases h)
      refine ⟨_, _, pre2 _ ?_, hrun, hended, _, _, rfl, ?_, ⟨_, rfl⟩, hW, hsame.mono (by decide) (by decide)⟩
      · show Steps p.tables e below (T6.setTop (mkF m 45 #[.val (.int p1), .val (.int (f0_v5 p1 w_INCONCLUSIVE w_VIOLATED w_SATISFIED)), .val (.ref w_INCONCLUSIVE), .val (.int (0 : Int32))] [(.int (0 : Int32)), (.int (f1 w_INCONCLUSIVE w_INCONCLUSIVE))])) _
        refine XS.icmpYes X6.here hx rfl (pc0 := 45) (pc' := 52) rfl (hb hby at_45) rfl (feq hc45).2 (by decide) (by decide) ?_
        show Steps p.tables e below (T6.setTop (mkF m 52 #[.val (.int p1), .val (.int (f0_v5 p1 w_INCONCLUSIVE w_VIOLATED w_SATISFIED)), .val (.ref w_INCONCLUSIVE), .val (.int (0 : Int32))] [])) _
        refine XS.iconst X6.here hx rfl (hb hby at_52) ?_
        show Steps p.tables e below (T6.setTop (mkF m 53 #[.val (.int p1), .val (.int (f0_v5 p1 w_INCONCLUSIVE w_VIOLATED w_SATISFIED)), .val (.ref w_INCONCLUSIVE), .val (.int (0 : Int32))] [(.int (0 : Int32))])) _
        exact retN X6 hx (t := .boolean) Bd.returns (by simp) (hb hby at_53) hr
      · show Q0 Z p1 w_INCONCLUSIVE w_VIOLATED w_SATISFIED h0 n0 _ T6.heap _
        rw [e6]
        exact ⟨by rw [eq4], N6, trivial⟩
  · have pre5 : ∀ t, Steps p.tables e below (s₁.setTop (mkF m 22 #[.val (.int p1), .val (.int (f0_v5 p1 w_INCONCLUSIVE w_VIOLATED w_SATISFIED)), .unset, .unset] [(.int (1 : Int32)), (.int (f0_v5 p1 w_INCONCLUSIVE w_VIOLATED w_SATISFIED))])) t → Steps p.tables e below (s₁.setTop (entryFrame m #[(.int p1)] maxLocals)) t := by
      intro t k
      refine pre1 t ?_
      show Steps p.tables e below (s₁.setTop (mkF m 8 #[.val (.int p1), .val (.int (f0_v5 p1 w_INCONCLUSIVE w_VIOLATED w_SATISFIED)), .unset, .unset] [(.int (f0_v5 p1 w_INCONCLUSIVE w_VIOLATED w_SATISFIED))])) _
      refine XS.ifYes X0.here hx rfl (pc0 := 8) (pc' := 20) rfl (hb hby at_8) rfl ((if0 _ _).trans (feq hc8).2) (by decide) (by decide) ?_
      show Steps p.tables e below (s₁.setTop (mkF m 20 #[.val (.int p1), .val (.int (f0_v5 p1 w_INCONCLUSIVE w_VIOLATED w_SATISFIED)), .unset, .unset] [])) _
      refine XS.iloadN X0.here hx rfl (hb hby at_20) rfl ?_
      show Steps p.tables e below (s₁.setTop (mkF m 21 #[.val (.int p1), .val (.int (f0_v5 p1 w_INCONCLUSIVE w_VIOLATED w_SATISFIED)), .unset, .unset] [(.int (f0_v5 p1 w_INCONCLUSIVE w_VIOLATED w_SATISFIED))])) _
      refine XS.iconst X0.here hx rfl (hb hby at_21) ?_
      exact k
    by_cases hc22 : (f0_v5 p1 w_INCONCLUSIVE w_VIOLATED w_SATISFIED) = (1 : Int32)
    · obtain ⟨T9, X9, e9, st9⟩ := getS2 X0 hx hZ hown (host := "") (Or.inl (hw _ (List.mem_of_getElem? (i := 12) rfl))) Via.refl e0 S_SATISFIED (g := (mkF m 25 #[.val (.int p1), .val (.int (f0_v5 p1 w_INCONCLUSIVE w_VIOLATED w_SATISFIED)), .unset, .unset] [])) rfl (hb hby at_25)
      obtain ⟨cq10, kq10, q10a, q10b, q10c⟩ := isOf hZ e9 E_w_SATISFIED
      obtain ⟨_, _, ⟨T10, L10, k10, n10⟩, -, X10, ⟨Lc10, hQ10, l10, y10, z10⟩, st10⟩ := X9.virtualBack hx (y := (⟨"com/example/inline_monitor/inlinemonitor/model/Verdict", "isFinal", "()Z"⟩ : MethodName)) (z := (⟨"com/example/inline_monitor/inlinemonitor/model/Verdict", "isFinal", "()Z"⟩ : MethodName)) hown (mvT hZ (hw _ (List.mem_of_getElem? (i := 4) rfl))) (mvT hZ (hw _ (List.mem_of_getElem? (i := 5) rfl))) (notFace_of_selects (args := #[]) (mvT hZ (hw _ (List.mem_of_getElem? (i := 7) rfl)))) (mvT hZ (hw _ (List.mem_of_getElem? (i := 7) rfl))) (mvT hZ (hw _ (List.mem_of_getElem? (i := 6) rfl))) (by decide) (backOf (W := 0) (rm1 l Z a0 hw [] w_SATISFIED w_INCONCLUSIVE h0 n0 Z0 S_INCONCLUSIVE) hZ (hw _ (List.mem_of_getElem? (i := 8) rfl)) (hw _ (List.mem_of_getElem? (i := 2) rfl)) (by decide) (by decide)) q10a q10c (g := (mkF m 41 #[.val (.int p1), .val (.int (f0_v5 p1 w_INCONCLUSIVE w_VIOLATED w_SATISFIED)), .val (.ref w_SATISFIED), .val (.int (1 : Int32))] [(.ref w_SATISFIED)])) rfl (by rw [hml]; rfl) (Steps.refl _) (argsL := []) (rest := []) (lenOf pd_0 rfl) rfl (by show 2 * 0 + _ ≤ _; exact Nat.le_of_eq rfl) (hb hby at_41) (fun _ _ => ⟨rfl, e9, (by decide : 0 + 0 ≤ _), (by decide : 0 + 0 ≤ _)⟩)
      dsimp only [Pt.U, Pt.locs, Pt.cells, Pt.slots] at X10 l10 y10 z10 st10 hQ10
      subst l10 y10 z10
      obtain ⟨rfl, N10q, e10⟩ := hQ10
      have N10 := Fr.app N0 N10q
      have pre6 : ∀ t, Steps p.tables e below (T10.setTop (mkF m 45 #[.val (.int p1), .val (.int (f0_v5 p1 w_INCONCLUSIVE w_VIOLATED w_SATISFIED)), .val (.ref w_SATISFIED), .val (.int (1 : Int32))] [(.int (1 : Int32)), (.int (f1 w_SATISFIED w_INCONCLUSIVE))])) t → Steps p.tables e below (s₁.setTop (entryFrame m #[(.int p1)] maxLocals)) t := by
        intro t k
        refine pre5 t ?_
        show Steps p.tables e below (s₁.setTop (mkF m 22 #[.val (.int p1), .val (.int (f0_v5 p1 w_INCONCLUSIVE w_VIOLATED w_SATISFIED)), .unset, .unset] [(.int (1 : Int32)), (.int (f0_v5 p1 w_INCONCLUSIVE w_VIOLATED w_SATISFIED))])) _
        refine XS.icmpNo X0.here hx rfl (hb hby at_22) rfl (teq hc22).2 ?_
        show Steps p.tables e below (s₁.setTop (mkF m 25 #[.val (.int p1), .val (.int (f0_v5 p1 w_INCONCLUSIVE w_VIOLATED w_SATISFIED)), .unset, .unset] [])) _
        refine st9 _ ?_
        show Steps p.tables e below (T9.setTop (mkF m 28 #[.val (.int p1), .val (.int (f0_v5 p1 w_INCONCLUSIVE w_VIOLATED w_SATISFIED)), .unset, .unset] [(.ref w_SATISFIED)])) _
        refine XS.astoreN X9.here hx rfl (hb hby at_28) rfl rfl (l' := #[.val (.int p1), .val (.int (f0_v5 p1 w_INCONCLUSIVE w_VIOLATED w_SATISFIED)), .val (.ref w_SATISFIED), .unset]) rfl ?_
        show Steps p.tables e below (T9.setTop (mkF m 29 #[.val (.int p1), .val (.int (f0_v5 p1 w_INCONCLUSIVE w_VIOLATED w_SATISFIED)), .val (.ref w_SATISFIED), .unset] [])) _
        refine XS.iconst X9.here hx rfl (hb hby at_29) ?_
        show Steps p.tables e below (T9.setTop (mkF m 30 #[.val (.int p1), .val (.int (f0_v5 p1 w_INCONCLUSIVE w_VIOLATED w_SATISFIED)), .val (.ref w_SATISFIED), .unset] [(.int (1 : Int32))])) _
        refine XS.istoreN X9.here hx rfl (hb hby at_30) rfl (l' := #[.val (.int p1), .val (.int (f0_v5 p1 w_INCONCLUSIVE w_VIOLATED w_SATISFIED)), .val (.ref w_SATISFIED), .val (.int (1 : Int32))]) rfl ?_
        show Steps p.tables e below (T9.setTop (mkF m 31 #[.val (.int p1), .val (.int (f0_v5 p1 w_INCONCLUSIVE w_VIOLATED w_SATISFIED)), .val (.ref w_SATISFIED), .val (.int (1 : Int32))] [])) _
        refine XS.goto X9.here hx rfl (pc0 := 31) (pc' := 40) rfl (hb hby at_31) (by decide) (by decide) ?_
        show Steps p.tables e below (T9.setTop (mkF m 40 #[.val (.int p1), .val (.int (f0_v5 p1 w_INCONCLUSIVE w_VIOLATED w_SATISFIED)), .val (.ref w_SATISFIED), .val (.int (1 : Int32))] [])) _
        refine XS.aloadN X9.here hx rfl (hb hby at_40) rfl rfl ?_
        show Steps p.tables e below (T9.setTop (mkF m 41 #[.val (.int p1), .val (.int (f0_v5 p1 w_INCONCLUSIVE w_VIOLATED w_SATISFIED)), .val (.ref w_SATISFIED), .val (.int (1 : Int32))] [(.ref w_SATISFIED)])) _
        refine st10.trans ?_
        show Steps p.tables e below (T10.setTop (mkF m 44 #[.val (.int p1), .val (.int (f0_v5 p1 w_INCONCLUSIVE w_VIOLATED w_SATISFIED)), .val (.ref w_SATISFIED), .val (.int (1 : Int32))] [(.int (f1 w_SATISFIED w_INCONCLUSIVE))])) _
        refine XS.iloadN X10.here hx rfl (hb hby at_44) rfl ?_
        exact k
      by_cases hc45 : (f1 w_SATISFIED w_INCONCLUSIVE) = (1 : Int32)
      · have eq7 : (f0 p1 w_INCONCLUSIVE w_VIOLATED w_SATISFIED) = (1 : Int32) := by unfold f0; simp only [if_neg hc8, if_pos hc22, if_pos hc45]
        obtain ⟨fs, hr, hrun, hended, hW, hsame⟩ := X10.leave (v := some (.int (1 : Int32))) (fun h => by rw [Bd.returns] at h; cases h)
        refine ⟨_, _, pre6 _ ?_, hrun, hended, _, _, rfl, ?_, ⟨_, rfl⟩, hW, hsame.mono (by decide) (by decide)⟩
        · show Steps p.tables e below (T10.setTop (mkF m 45 #[.val (.int p1), .val (.int (f0_v5 p1 w_INCONCLUSIVE w_VIOLATED w_SATISFIED)), .val (.ref w_SATISFIED), .val (.int (1 : Int32))] [(.int (1 : Int32)), (.int (f1 w_SATISFIED w_INCONCLUSIVE))])) _
          refine XS.icmpNo X10.here hx rfl (hb hby at_45) rfl (teq hc45).2 ?_
          show Steps p.tables e below (T10.setTop (mkF m 48 #[.val (.int p1), .val (.int (f0_v5 p1 w_INCONCLUSIVE w_VIOLATED w_SATISFIED)), .val (.ref w_SATISFIED), .val (.int (1 : Int32))] [])) _
          refine XS.iconst X10.here hx rfl (hb hby at_48) ?_
          show Steps p.tables e below (T10.setTop (mkF m 49 #[.val (.int p1), .val (.int (f0_v5 p1 w_INCONCLUSIVE w_VIOLATED w_SATISFIED)), .val (.ref w_SATISFIED), .val (.int (1 : Int32))] [(.int (1 : Int32))])) _
          refine XS.goto X10.here hx rfl (pc0 := 49) (pc' := 53) rfl (hb hby at_49) (by decide) (by decide) ?_
          show Steps p.tables e below (T10.setTop (mkF m 53 #[.val (.int p1), .val (.int (f0_v5 p1 w_INCONCLUSIVE w_VIOLATED w_SATISFIED)), .val (.ref w_SATISFIED), .val (.int (1 : Int32))] [(.int (1 : Int32))])) _
          exact retN X10 hx (t := .boolean) Bd.returns (by simp) (hb hby at_53) hr
        · show Q0 Z p1 w_INCONCLUSIVE w_VIOLATED w_SATISFIED h0 n0 _ T10.heap _
          rw [e10]
          exact ⟨by rw [eq7], N10, trivial⟩
      · have eq8 : (f0 p1 w_INCONCLUSIVE w_VIOLATED w_SATISFIED) = (0 : Int32) := by unfold f0; simp only [if_neg hc8, if_pos hc22, if_neg hc45]
        obtain ⟨fs, hr, hrun, hended, hW, hsame⟩ := X10.leave (v := some (.int (0 : Int32))) (fun h => by rw [Bd.returns] at h; cases h)
        refine ⟨_, _, pre6 _ ?_, hrun, hended, _, _, rfl, ?_, ⟨_, rfl⟩, hW, hsame.mono (by decide) (by decide)⟩
        · show Steps p.tables e below (T10.setTop (mkF m 45 #[.val (.int p1), .val (.int (f0_v5 p1 w_INCONCLUSIVE w_VIOLATED w_SATISFIED)), .val (.ref w_SATISFIED), .val (.int (1 : Int32))] [(.int (1 : Int32)), (.int (f1 w_SATISFIED w_INCONCLUSIVE))])) _
          refine XS.icmpYes X10.here hx rfl (pc0 := 45) (pc' := 52) rfl (hb hby at_45) rfl (feq hc45).2 (by decide) (by decide) ?_
          show Steps p.tables e below (T10.setTop (mkF m 52 #[.val (.int p1), .val (.int (f0_v5 p1 w_INCONCLUSIVE w_VIOLATED w_SATISFIED)), .val (.ref w_SATISFIED), .val (.int (1 : Int32))] [])) _
          refine XS.iconst X10.here hx rfl (hb hby at_52) ?_
          show Steps p.tables e below (T10.setTop (mkF m 53 #[.val (.int p1), .val (.int (f0_v5 p1 w_INCONCLUSIVE w_VIOLATED w_SATISFIED)), .val (.ref w_SATISFIED), .val (.int (1 : Int32))] [(.int (0 : Int32))])) _
          exact retN X10 hx (t := .boolean) Bd.returns (by simp) (hb hby at_53) hr
        · show Q0 Z p1 w_INCONCLUSIVE w_VIOLATED w_SATISFIED h0 n0 _ T10.heap _
          rw [e10]
          exact ⟨by rw [eq8], N10, trivial⟩
    · obtain ⟨T11, X11, e11, st11⟩ := getS2 X0 hx hZ hown (host := "") (Or.inl (hw _ (List.mem_of_getElem? (i := 10) rfl))) Via.refl e0 S_VIOLATED (g := (mkF m 34 #[.val (.int p1), .val (.int (f0_v5 p1 w_INCONCLUSIVE w_VIOLATED w_SATISFIED)), .unset, .unset] [])) rfl (hb hby at_34)
      obtain ⟨cq12, kq12, q12a, q12b, q12c⟩ := isOf hZ e11 E_w_VIOLATED
      obtain ⟨_, _, ⟨T12, L12, k12, n12⟩, -, X12, ⟨Lc12, hQ12, l12, y12, z12⟩, st12⟩ := X11.virtualBack hx (y := (⟨"com/example/inline_monitor/inlinemonitor/model/Verdict", "isFinal", "()Z"⟩ : MethodName)) (z := (⟨"com/example/inline_monitor/inlinemonitor/model/Verdict", "isFinal", "()Z"⟩ : MethodName)) hown (mvT hZ (hw _ (List.mem_of_getElem? (i := 4) rfl))) (mvT hZ (hw _ (List.mem_of_getElem? (i := 5) rfl))) (notFace_of_selects (args := #[]) (mvT hZ (hw _ (List.mem_of_getElem? (i := 7) rfl)))) (mvT hZ (hw _ (List.mem_of_getElem? (i := 7) rfl))) (mvT hZ (hw _ (List.mem_of_getElem? (i := 6) rfl))) (by decide) (backOf (W := 0) (rm1 l Z a0 hw [] w_VIOLATED w_INCONCLUSIVE h0 n0 Z0 S_INCONCLUSIVE) hZ (hw _ (List.mem_of_getElem? (i := 8) rfl)) (hw _ (List.mem_of_getElem? (i := 2) rfl)) (by decide) (by decide)) q12a q12c (g := (mkF m 41 #[.val (.int p1), .val (.int (f0_v5 p1 w_INCONCLUSIVE w_VIOLATED w_SATISFIED)), .val (.ref w_VIOLATED), .val (.int (1 : Int32))] [(.ref w_VIOLATED)])) rfl (by rw [hml]; rfl) (Steps.refl _) (argsL := []) (rest := []) (lenOf pd_0 rfl) rfl (by show 2 * 0 + _ ≤ _; exact Nat.le_of_eq rfl) (hb hby at_41) (fun _ _ => ⟨rfl, e11, (by decide : 0 + 0 ≤ _), (by decide : 0 + 0 ≤ _)⟩)
      dsimp only [Pt.U, Pt.locs, Pt.cells, Pt.slots] at X12 l12 y12 z12 st12 hQ12
      subst l12 y12 z12
      obtain ⟨rfl, N12q, e12⟩ := hQ12
      have N12 := Fr.app N0 N12q
      have pre9 : ∀ t, Steps p.tables e below (T12.setTop (mkF m 45 #[.val (.int p1), .val (.int (f0_v5 p1 w_INCONCLUSIVE w_VIOLATED w_SATISFIED)), .val (.ref w_VIOLATED), .val (.int (1 : Int32))] [(.int (1 : Int32)), (.int (f1 w_VIOLATED w_INCONCLUSIVE))])) t → Steps p.tables e below (s₁.setTop (entryFrame m #[(.int p1)] maxLocals)) t := by
        intro t k
        refine pre5 t ?_
        show Steps p.tables e below (s₁.setTop (mkF m 22 #[.val (.int p1), .val (.int (f0_v5 p1 w_INCONCLUSIVE w_VIOLATED w_SATISFIED)), .unset, .unset] [(.int (1 : Int32)), (.int (f0_v5 p1 w_INCONCLUSIVE w_VIOLATED w_SATISFIED))])) _
        refine XS.icmpYes X0.here hx rfl (pc0 := 22) (pc' := 34) rfl (hb hby at_22) rfl (feq hc22).2 (by decide) (by decide) ?_
        show Steps p.tables e below (s₁.setTop (mkF m 34 #[.val (.int p1), .val (.int (f0_v5 p1 w_INCONCLUSIVE w_VIOLATED w_SATISFIED)), .unset, .unset] [])) _
        refine st11 _ ?_
        show Steps p.tables e below (T11.setTop (mkF m 37 #[.val (.int p1), .val (.int (f0_v5 p1 w_INCONCLUSIVE w_VIOLATED w_SATISFIED)), .unset, .unset] [(.ref w_VIOLATED)])) _
        refine XS.astoreN X11.here hx rfl (hb hby at_37) rfl rfl (l' := #[.val (.int p1), .val (.int (f0_v5 p1 w_INCONCLUSIVE w_VIOLATED w_SATISFIED)), .val (.ref w_VIOLATED), .unset]) rfl ?_
        show Steps p.tables e below (T11.setTop (mkF m 38 #[.val (.int p1), .val (.int (f0_v5 p1 w_INCONCLUSIVE w_VIOLATED w_SATISFIED)), .val (.ref w_VIOLATED), .unset] [])) _
        refine XS.iconst X11.here hx rfl (hb hby at_38) ?_
        show Steps p.tables e below (T11.setTop (mkF m 39 #[.val (.int p1), .val (.int (f0_v5 p1 w_INCONCLUSIVE w_VIOLATED w_SATISFIED)), .val (.ref w_VIOLATED), .unset] [(.int (1 : Int32))])) _
        refine XS.istoreN X11.here hx rfl (hb hby at_39) rfl (l' := #[.val (.int p1), .val (.int (f0_v5 p1 w_INCONCLUSIVE w_VIOLATED w_SATISFIED)), .val (.ref w_VIOLATED), .val (.int (1 : Int32))]) rfl ?_
        show Steps p.tables e below (T11.setTop (mkF m 40 #[.val (.int p1), .val (.int (f0_v5 p1 w_INCONCLUSIVE w_VIOLATED w_SATISFIED)), .val (.ref w_VIOLATED), .val (.int (1 : Int32))] [])) _
        refine XS.aloadN X11.here hx rfl (hb hby at_40) rfl rfl ?_
        show Steps p.tables e below (T11.setTop (mkF m 41 #[.val (.int p1), .val (.int (f0_v5 p1 w_INCONCLUSIVE w_VIOLATED w_SATISFIED)), .val (.ref w_VIOLATED), .val (.int (1 : Int32))] [(.ref w_VIOLATED)])) _
        refine st12.trans ?_
        show Steps p.tables e below (T12.setTop (mkF m 44 #[.val (.int p1), .val (.int (f0_v5 p1 w_INCONCLUSIVE w_VIOLATED w_SATISFIED)), .val (.ref w_VIOLATED), .val (.int (1 : Int32))] [(.int (f1 w_VIOLATED w_INCONCLUSIVE))])) _
        refine XS.iloadN X12.here hx rfl (hb hby at_44) rfl ?_
        exact k
      by_cases hc45 : (f1 w_VIOLATED w_INCONCLUSIVE) = (1 : Int32)
      · have eq10 : (f0 p1 w_INCONCLUSIVE w_VIOLATED w_SATISFIED) = (1 : Int32) := by unfold f0; simp only [if_neg hc8, if_neg hc22, if_pos hc45]
        obtain ⟨fs, hr, hrun, hended, hW, hsame⟩ := X12.leave (v := some (.int (1 : Int32))) (fun h => by rw [Bd.returns] at h; cases h)
        refine ⟨_, _, pre9 _ ?_, hrun, hended, _, _, rfl, ?_, ⟨_, rfl⟩, hW, hsame.mono (by decide) (by decide)⟩
        · show Steps p.tables e below (T12.setTop (mkF m 45 #[.val (.int p1), .val (.int (f0_v5 p1 w_INCONCLUSIVE w_VIOLATED w_SATISFIED)), .val (.ref w_VIOLATED), .val (.int (1 : Int32))] [(.int (1 : Int32)), (.int (f1 w_VIOLATED w_INCONCLUSIVE))])) _
          refine XS.icmpNo X12.here hx rfl (hb hby at_45) rfl (teq hc45).2 ?_
          show Steps p.tables e below (T12.setTop (mkF m 48 #[.val (.int p1), .val (.int (f0_v5 p1 w_INCONCLUSIVE w_VIOLATED w_SATISFIED)), .val (.ref w_VIOLATED), .val (.int (1 : Int32))] [])) _
          refine XS.iconst X12.here hx rfl (hb hby at_48) ?_
          show Steps p.tables e below (T12.setTop (mkF m 49 #[.val (.int p1), .val (.int (f0_v5 p1 w_INCONCLUSIVE w_VIOLATED w_SATISFIED)), .val (.ref w_VIOLATED), .val (.int (1 : Int32))] [(.int (1 : Int32))])) _
          refine XS.goto X12.here hx rfl (pc0 := 49) (pc' := 53) rfl (hb hby at_49) (by decide) (by decide) ?_
          show Steps p.tables e below (T12.setTop (mkF m 53 #[.val (.int p1), .val (.int (f0_v5 p1 w_INCONCLUSIVE w_VIOLATED w_SATISFIED)), .val (.ref w_VIOLATED), .val (.int (1 : Int32))] [(.int (1 : Int32))])) _
          exact retN X12 hx (t := .boolean) Bd.returns (by simp) (hb hby at_53) hr
        · show Q0 Z p1 w_INCONCLUSIVE w_VIOLATED w_SATISFIED h0 n0 _ T12.heap _
          rw [e12]
          exact ⟨by rw [eq10], N12, trivial⟩
      · have eq11 : (f0 p1 w_INCONCLUSIVE w_VIOLATED w_SATISFIED) = (0 : Int32) := by unfold f0; simp only [if_neg hc8, if_neg hc22, if_neg hc45]
        obtain ⟨fs, hr, hrun, hended, hW, hsame⟩ := X12.leave (v := some (.int (0 : Int32))) (fun h => by rw [Bd.returns] at h; cases h)
        refine ⟨_, _, pre9 _ ?_, hrun, hended, _, _, rfl, ?_, ⟨_, rfl⟩, hW, hsame.mono (by decide) (by decide)⟩
        · show Steps p.tables e below (T12.setTop (mkF m 45 #[.val (.int p1), .val (.int (f0_v5 p1 w_INCONCLUSIVE w_VIOLATED w_SATISFIED)), .val (.ref w_VIOLATED), .val (.int (1 : Int32))] [(.int (1 : Int32)), (.int (f1 w_VIOLATED w_INCONCLUSIVE))])) _
          refine XS.icmpYes X12.here hx rfl (pc0 := 45) (pc' := 52) rfl (hb hby at_45) rfl (feq hc45).2 (by decide) (by decide) ?_
          show Steps p.tables e below (T12.setTop (mkF m 52 #[.val (.int p1), .val (.int (f0_v5 p1 w_INCONCLUSIVE w_VIOLATED w_SATISFIED)), .val (.ref w_VIOLATED), .val (.int (1 : Int32))] [])) _
          refine XS.iconst X12.here hx rfl (hb hby at_52) ?_
          show Steps p.tables e below (T12.setTop (mkF m 53 #[.val (.int p1), .val (.int (f0_v5 p1 w_INCONCLUSIVE w_VIOLATED w_SATISFIED)), .val (.ref w_VIOLATED), .val (.int (1 : Int32))] [(.int (0 : Int32))])) _
          exact retN X12 hx (t := .boolean) Bd.returns (by simp) (hb hby at_53) hr
        · show Q0 Z p1 w_INCONCLUSIVE w_VIOLATED w_SATISFIED h0 n0 _ T12.heap _
          rw [e12]
          exact ⟨by rw [eq11], N12, trivial⟩
theorem own_law (p : Int32) (a b c : Addr) (hb : b ≠ a) (hc : c ≠ a) : f0 p a b c = 1 := by
  unfold f0 f1
  rw [if_pos rfl, if_neg hb, if_neg hc]
  simp

set_option maxRecDepth 65536 in
set_option maxHeartbeats 40000000 in
theorem comes_1 {Post : Tables → Env → Array Value → State → Outcome → State → Prop} (hpost : ∀ tb e args s v u, (limb_1_1.after args s (.returned v) u = true ∧ limb_1_2.after args s (.returned v) u = true ∧ True) → FrameEnd s (.returned v) u (Jvm.fieldLocs frame_1_writes args s ++ Jvm.arrayLocs frame_1_arrays args s ++ Jvm.staticLocs frame_1_statics s) 0 0 → Post tb e args s (.returned v) u) :
    ArmFor flags0 classFile x code maxLocals ret World_1 tables_1 room_1 Calls_1 rest_1 Pre_1 Post := by
  intro l hfl _ _ p e ha hc hk s m args below hf hA hF happ hP
  obtain ⟨hcalls, hrest, hpre⟩ := hP
  obtain ⟨-, -, -, hnamed, -, -, -, hat⟩ := (Spec.applies_iff hf).mp happ
  obtain ⟨hg, hn⟩ := and_e (Cond.before_iff.mp (show (Jvm.Cond.and given_1 narrow_1).before args s = true from hpre))
  obtain ⟨g1, g2⟩ := and_e hg
  obtain ⟨w0, rfl⟩ : ∃ w0 : Value, args = #[w0] := by
    have hs : args.size = 1 := by simpa [Cond.value, given_1] using g1
    obtain ⟨L⟩ := args
    match L, hs with
    | [w0], _ => exact ⟨w0, rfl⟩
  have hw := fun d (hd : d ∈ tables_1) => atoms_spec (ws := Jvm.Cond.code x code maxLocals ret :: tables_1) hat d (List.mem_cons_of_mem _ hd)
  have hfit : Fit s := fun {y c} hc i hi => by
    obtain ⟨ha, rfl⟩ := Array.getElem?_eq_some_iff.mp hc
    have q := List.all_eq_true.mp ((Array.all_eq_true_iff_forall_mem.mp hF) _ (Array.getElem_mem ha)) i (List.mem_range.mpr hi)
    simpa [Array.getElem?_eq_getElem hi] using q
  obtain ⟨i0, ei0⟩ := is_v g2
  obtain rfl : w0 = (.int i0) := Option.some.inj ei0
  obtain ⟨n1, n2⟩ := and_e hn
  obtain ⟨n3, n4⟩ := and_e n2
  obtain ⟨n5, n6⟩ := and_e n4
  obtain ⟨n7, n8⟩ := and_e n6
  obtain ⟨n9, n10⟩ := and_e n8
  obtain ⟨a_INCONCLUSIVE, ea_INCONCLUSIVE⟩ := exa_v n1
  have S_INCONCLUSIVE : Sta s s.heap "com/example/inline_monitor/inlinemonitor/model/Verdict" "INCONCLUSIVE" "Lcom/example/inline_monitor/inlinemonitor/model/Verdict;" (.ref a_INCONCLUSIVE) := Sta.start ea_INCONCLUSIVE (Or.inr ⟨(hw _ (List.mem_of_getElem? (i := 2) rfl)), (hw _ (List.mem_of_getElem? (i := 3) rfl))⟩)
  have E_INCONCLUSIVE : Exa s s.heap a_INCONCLUSIVE "com/example/inline_monitor/inlinemonitor/model/Verdict" := Exa.start ea_INCONCLUSIVE n1
  obtain ⟨a_VIOLATED, ea_VIOLATED⟩ := exa_v n3
  have S_VIOLATED : Sta s s.heap "com/example/inline_monitor/inlinemonitor/model/Verdict" "VIOLATED" "Lcom/example/inline_monitor/inlinemonitor/model/Verdict;" (.ref a_VIOLATED) := Sta.start ea_VIOLATED (Or.inr ⟨(hw _ (List.mem_of_getElem? (i := 2) rfl)), (hw _ (List.mem_of_getElem? (i := 11) rfl))⟩)
  have E_VIOLATED : Exa s s.heap a_VIOLATED "com/example/inline_monitor/inlinemonitor/model/Verdict" := Exa.start ea_VIOLATED n3
  obtain ⟨a_SATISFIED, ea_SATISFIED⟩ := exa_v n9
  have S_SATISFIED : Sta s s.heap "com/example/inline_monitor/inlinemonitor/model/Verdict" "SATISFIED" "Lcom/example/inline_monitor/inlinemonitor/model/Verdict;" (.ref a_SATISFIED) := Sta.start ea_SATISFIED (Or.inr ⟨(hw _ (List.mem_of_getElem? (i := 2) rfl)), (hw _ (List.mem_of_getElem? (i := 13) rfl))⟩)
  have E_SATISFIED : Exa s s.heap a_SATISFIED "com/example/inline_monitor/inlinemonitor/model/Verdict" := Exa.start ea_SATISFIED n9
  have O_VIOLATED : Fld s s.heap a_VIOLATED "java/lang/Enum" "ordinal" "I" (.int 2) := Fld.start ((fld_at ea_VIOLATED).symm.trans (own_eqint n5))
  have O_INCONCLUSIVE : Fld s s.heap a_INCONCLUSIVE "java/lang/Enum" "ordinal" "I" (.int 0) := Fld.start ((fld_at ea_INCONCLUSIVE).symm.trans (own_eqint n7))
  have O_SATISFIED : Fld s s.heap a_SATISFIED "java/lang/Enum" "ordinal" "I" (.int 1) := Fld.start ((fld_at ea_SATISFIED).symm.trans (own_eqint n10))
  have ne_SATISFIED_INCONCLUSIVE : a_SATISFIED ≠ a_INCONCLUSIVE := Fld.ne O_SATISFIED O_INCONCLUSIVE (by decide)
  have ne_VIOLATED_INCONCLUSIVE : a_VIOLATED ≠ a_INCONCLUSIVE := Fld.ne O_VIOLATED O_INCONCLUSIVE (by decide)
  obtain ⟨n, o, h1, h2, h3, v', L, rfl, ⟨hv', N, -⟩, hq⟩ := rm0 l s _ hw tables_1 i0 a_INCONCLUSIVE a_VIOLATED a_SATISFIED s.heap s.heap.size (Nat.le_refl _) S_INCONCLUSIVE S_VIOLATED S_SATISFIED E_INCONCLUSIVE E_VIOLATED E_SATISFIED p e ha hc hk s m _ below hf ((Spec.applies_iff_loose hf).mp happ).1 ⟨rfl, State.Warmed39.refl s, rfl⟩ trivial
  rw [own_law i0 a_INCONCLUSIVE a_VIOLATED a_SATISFIED ne_VIOLATED_INCONCLUSIVE ne_SATISFIED_INCONCLUSIVE] at hv'
  subst hv'
  refine ⟨n, _, h1, h2, h3, hpost _ _ _ _ _ _ ⟨Cond.after_iff.mpr rfl, Cond.after_iff.mpr (eq_i res_at (Term.int_eval (1)) rfl), trivial⟩ ⟨hq.1, hq.2.1, (hq.2.2.sift fun y hy => Or.inr (N y hy)).mono (by decide) (by decide)⟩⟩
theorem main_1_1 : Claimed_1_1 := comes_1 fun _ _ _ _ _ _ h hF => ⟨h.1, hF⟩
theorem main_1_2 : Claimed_1_2 := comes_1 fun _ _ _ _ _ _ h hF => ⟨h.2.1, hF⟩
end Jvm.Pilot.@@N@@
namespace Jvm.Pilot.@@N@@
open Jvm Jvm.ClassFile Sem Op Lib Jvm.Free Jvm.Stand Jvm.Pilot.@@N@@.Jvm.D
/-! MADE BY PROGRAM (witnessworld.py) out of the Statement's table words and the real class files: 12 classes; the members and pool entries that the words name. The judged class is class 1, her method 1. -/
namespace start1
open Jvm.ClassFile
def u (s : String) : CpInfo := .utf8 (stringToUtf16 s)
/-- a pool by its gaps: so many unusable entries, then the entry; so many at the end -/
def gap : Nat → List CpInfo → List CpInfo
  | 0, r => r
  | n + 1, r => .unusable :: gap n r
def poolList (es : List (Nat × CpInfo)) (last : Nat) : List CpInfo := es.foldr (fun e r => gap e.1 (e.2 :: r)) (gap last [])
def pool (es : List (Nat × CpInfo)) (last : Nat) : Array CpInfo := ⟨poolList es last⟩
def fileOf (pool : Array CpInfo) (this : Nat) (attrs : Array Attribute := #[]) (ms : Array MethodInfo := #[]) (fl : Nat := 33) (sup : Nat := 0) (ifs : Array Nat := #[]) (fds : Array FieldInfo := #[]) : ClassFile where
  minorVersion := 0
  majorVersion := 65
  constantPool := pool
  accessFlags := fl
  thisClass := this
  superClass := sup
  interfaces := ifs
  fields := fds
  methods := ms
  attributes := attrs
def plain (name : String) (sup : Option ClassId) : Class where
  name := name
  kind := .ordinary
  loader := none
  accessFlags := 33
  super := sup
  interfaces := #[]
  cf := none
  fields := #[]
  methods := #[]
  instanceTypes := #[]
  staticTypes := #[]
  resolved := #[]
  callSites := []
  init := .initialized
  statics := none
  mirror := none

def pool0 : Array CpInfo := pool [(5, u "<init>"), (0, u "()V"), (1, .class_ 10), (1, u "java/lang/Object")] 113

def k0m0 : Method := { name := "<init>", desc := "()V", sig := { parameters := [], returnType := none }, accessFlags := 1, code := none }
/-- java/lang/Object -/
def k0 : Class := { plain "java/lang/Object" none with
  accessFlags := 33
  interfaces := #[]
  cf := some (fileOf pool0 8 #[] #[{ accessFlags := 1, nameIndex := 5, descriptorIndex := 6, attributes := #[] }] 33 0 #[] #[])
  fields := #[]
  methods := #[k0m0]
  instanceTypes := #[]
  staticTypes := #[]
  resolved := Array.replicate 124 none
  statics := none }

def pool1 : Array CpInfo := pool [(2, .class_ 4), (1, u "java/lang/Object"), (0, u "<init>"), (0, u "()V"), (0, .integer 2147483647), (0, .fieldref 9 10), (0, .class_ 11), (0, .nameAndType 12 13), (0, u "com/example/inline_monitor/inlinemonitor/model/Verdict"), (0, u "INCONCLUSIVE"), (0, u "Lcom/example/inline_monitor/inlinemonitor/model/Verdict;"), (0, .fieldref 9 15), (0, .nameAndType 16 13), (0, u "SATISFIED"), (0, .fieldref 9 18), (0, .nameAndType 19 13), (0, u "VIOLATED"), (0, .methodref 9 21), (0, .nameAndType 22 23), (0, u "isFinal"), (0, u "()Z"), (0, .class_ 25), (0, u "com/example/inline_monitor/inlinemonitor/model/VerdictIsFinalPinLaw"), (2, u "law"), (0, u "(I)Z")] 3

def k1m0 : Method := { name := "<init>", desc := "()V", sig := { parameters := [], returnType := none }, accessFlags := 2, code := none }
def k1c1 : Code := { maxStack := 2, maxLocals := 4, code := code, exceptionTable := #[], attributes := #[] }
def k1m1 : Method := { name := "law", desc := "(I)Z", sig := { parameters := [.int], returnType := some .boolean }, accessFlags := 9, code := some k1c1 }
/-- com/example/inline_monitor/inlinemonitor/model/VerdictIsFinalPinLaw -/
def k1 : Class := { plain "com/example/inline_monitor/inlinemonitor/model/VerdictIsFinalPinLaw" (some 0) with
  accessFlags := 49
  interfaces := #[]
  cf := some (fileOf pool1 24 #[] #[{ accessFlags := 2, nameIndex := 5, descriptorIndex := 6, attributes := #[] }, { accessFlags := 9, nameIndex := 28, descriptorIndex := 29, attributes := #[] }] 49 2 #[] #[])
  fields := #[]
  methods := #[k1m0, k1m1]
  instanceTypes := #[]
  staticTypes := #[]
  resolved := Array.replicate 33 none
  statics := none }

def pool2 : Array CpInfo := pool [(1, .class_ 2), (0, u "java/lang/constant/Constable"), (0, .class_ 4), (0, u "java/lang/Object")] 6

/-- java/lang/constant/Constable -/
def k2 : Class := { plain "java/lang/constant/Constable" (some 0) with
  accessFlags := 1537
  interfaces := #[]
  cf := some (fileOf pool2 1 #[] #[] 1537 3 #[] #[])
  fields := #[]
  methods := #[]
  instanceTypes := #[]
  staticTypes := #[]
  resolved := Array.replicate 11 none
  statics := none }

def pool3 : Array CpInfo := pool [(1, .class_ 2), (0, u "java/lang/Comparable"), (0, .class_ 4), (0, u "java/lang/Object")] 7

/-- java/lang/Comparable -/
def k3 : Class := { plain "java/lang/Comparable" (some 0) with
  accessFlags := 1537
  interfaces := #[]
  cf := some (fileOf pool3 1 #[] #[] 1537 3 #[] #[])
  fields := #[]
  methods := #[]
  instanceTypes := #[]
  staticTypes := #[]
  resolved := Array.replicate 12 none
  statics := none }

def pool4 : Array CpInfo := pool [(1, .class_ 2), (0, u "java/io/Serializable"), (0, .class_ 4), (0, u "java/lang/Object")] 2

/-- java/io/Serializable -/
def k4 : Class := { plain "java/io/Serializable" (some 0) with
  accessFlags := 1537
  interfaces := #[]
  cf := some (fileOf pool4 1 #[] #[] 1537 3 #[] #[])
  fields := #[]
  methods := #[]
  instanceTypes := #[]
  staticTypes := #[]
  resolved := Array.replicate 7 none
  statics := none }

def pool5 : Array CpInfo := pool [(2, .class_ 4), (1, u "java/lang/Enum"), (0, u "name"), (0, u "Ljava/lang/String;"), (2, u "ordinal"), (0, u "I"), (1, .class_ 14), (1, u "java/lang/Object"), (4, u "hash"), (86, .class_ 108), (1, u "java/lang/Enum$EnumDesc"), (2, .class_ 112), (0, u "java/lang/constant/Constable"), (0, .class_ 114), (0, u "java/lang/Comparable"), (0, .class_ 116), (0, u "java/io/Serializable")] 87

/-- java/lang/Enum -/
def k5 : Class := { plain "java/lang/Enum" (some 0) with
  accessFlags := 1057
  interfaces := #[2, 3, 4]
  cf := some (fileOf pool5 2 #[.nestMembers #[106]] #[] 1057 12 #[111, 113, 115] #[{ accessFlags := 18, nameIndex := 5, descriptorIndex := 6, attributes := #[] }, { accessFlags := 18, nameIndex := 9, descriptorIndex := 10, attributes := #[] }, { accessFlags := 2, nameIndex := 19, descriptorIndex := 10, attributes := #[] }])
  fields := #[{ name := "name", type := (.object "java/lang/String"), accessFlags := 18, slot := 0, constantValue := 0 }, { name := "ordinal", type := .int, accessFlags := 18, slot := 1, constantValue := 0 }, { name := "hash", type := .int, accessFlags := 2, slot := 2, constantValue := 0 }]
  methods := #[]
  instanceTypes := #[(.object "java/lang/String"), .int, .int]
  staticTypes := #[]
  resolved := Array.replicate 204 none
  statics := none }

def pool6 : Array CpInfo := pool [(1, .class_ 2), (0, u "com/example/inline_monitor/inlinemonitor/model/Verdict"), (0, .fieldref 1 4), (0, .nameAndType 5 6), (0, u "INCONCLUSIVE"), (0, u "Lcom/example/inline_monitor/inlinemonitor/model/Verdict;"), (2, u "SATISFIED"), (2, u "VIOLATED"), (2, u "$VALUES"), (0, u "[Lcom/example/inline_monitor/inlinemonitor/model/Verdict;"), (6, .class_ 25), (1, u "java/lang/Enum"), (8, u "word"), (0, u "Ljava/lang/String;"), (24, u "isFinal"), (0, u "()Z")] 6

def k6c0 : Code := { maxStack := 2, maxLocals := 1, code := prog_49_method_5_code, exceptionTable := #[], attributes := #[] }
def k6m0 : Method := { name := "isFinal", desc := "()Z", sig := { parameters := [], returnType := some .boolean }, accessFlags := 1, code := some k6c0 }
/-- com/example/inline_monitor/inlinemonitor/model/Verdict -/
def k6 : Class := { plain "com/example/inline_monitor/inlinemonitor/model/Verdict" (some 5) with
  accessFlags := 16433
  interfaces := #[]
  cf := some (fileOf pool6 1 #[] #[{ accessFlags := 1, nameIndex := 60, descriptorIndex := 61, attributes := #[] }] 16433 23 #[] #[{ accessFlags := 16409, nameIndex := 5, descriptorIndex := 6, attributes := #[] }, { accessFlags := 16409, nameIndex := 9, descriptorIndex := 6, attributes := #[] }, { accessFlags := 16409, nameIndex := 12, descriptorIndex := 6, attributes := #[] }, { accessFlags := 18, nameIndex := 34, descriptorIndex := 35, attributes := #[] }, { accessFlags := 4122, nameIndex := 15, descriptorIndex := 16, attributes := #[] }])
  fields := #[{ name := "INCONCLUSIVE", type := (.object "com/example/inline_monitor/inlinemonitor/model/Verdict"), accessFlags := 16409, slot := 0, constantValue := 0 }, { name := "SATISFIED", type := (.object "com/example/inline_monitor/inlinemonitor/model/Verdict"), accessFlags := 16409, slot := 1, constantValue := 0 }, { name := "VIOLATED", type := (.object "com/example/inline_monitor/inlinemonitor/model/Verdict"), accessFlags := 16409, slot := 2, constantValue := 0 }, { name := "word", type := (.object "java/lang/String"), accessFlags := 18, slot := 3, constantValue := 0 }, { name := "$VALUES", type := (.array (.object "com/example/inline_monitor/inlinemonitor/model/Verdict")), accessFlags := 4122, slot := 3, constantValue := 0 }]
  methods := #[k6m0]
  instanceTypes := #[(.object "java/lang/String"), .int, .int, (.object "java/lang/String")]
  staticTypes := #[(.object "com/example/inline_monitor/inlinemonitor/model/Verdict"), (.object "com/example/inline_monitor/inlinemonitor/model/Verdict"), (.object "com/example/inline_monitor/inlinemonitor/model/Verdict"), (.array (.object "com/example/inline_monitor/inlinemonitor/model/Verdict"))]
  resolved := Array.replicate 68 none
  statics := some 0 }

def pool7 : Array CpInfo := pool [(1, u "java/lang/Cloneable"), (0, .class_ 1), (0, u "java/lang/Object"), (0, .class_ 3)] 3

/-- java/lang/Cloneable -/
def k7 : Class := { plain "java/lang/Cloneable" (some 0) with
  accessFlags := 1537
  interfaces := #[]
  cf := some (fileOf pool7 2 #[] #[] 1537 4 #[] #[])
  fields := #[]
  methods := #[]
  instanceTypes := #[]
  staticTypes := #[]
  resolved := Array.replicate 8 none
  statics := none }

/-- the primitive byte -/
def k8 : Class := { plain "byte" none with kind := .primitive 'B', accessFlags := 0x411 }
/-- [B -/
def k9 : Class := { plain "[B" (some 0) with kind := .array 8 .byte, interfaces := #[7, 4], accessFlags := 1041 }

/-- the primitive int -/
def k10 : Class := { plain "int" none with kind := .primitive 'I', accessFlags := 0x411 }
/-- [I -/
def k11 : Class := { plain "[I" (some 0) with kind := .array 10 .int, interfaces := #[7, 4], accessFlags := 1041 }

def heap : Heap := #[{ cls := 6, slots := #[.ref 1, .ref 3, .ref 2, .null], vm := .statics 6 },
  { cls := 6, slots := #[.null, .int 0, .int 0, .null], vm := .none },
  { cls := 6, slots := #[.null, .int 2, .int 0, .null], vm := .none },
  { cls := 6, slots := #[.null, .int 1, .int 0, .null], vm := .none }]
def classes : Array Class := #[k0, k1, k2, k3, k4, k5, k6, k7, k8, k9, k10, k11]
def interned : List (Array UInt16 × Addr) := []
def slotsUsed : Nat := 16
def theMethod : MethodId := ⟨1, 1⟩
def args0 : Array Value := #[.int 1]
def aboutOver (below : List Frame) : State where
  vm := { classes := classes, interned := interned.toArray }
  heap := heap
  slotsUsed := slotsUsed
  threads := #[{ frames := .invoking theMethod args0 :: below }]
def below0 : List Frame := [.native { method := ⟨0, 0⟩, args := #[] }]
def about1 : State := aboutOver below0
def p0 : Program := .bare "" "" ""
def e0 : Env := launch0.env 0 0 0
theorem w_frames : about1.frames = Frame.invoking theMethod args0 :: below0 := rfl
set_option maxRecDepth 65536 in
theorem w_args : argsFit about1.vm theMethod args0 = true := by decide +kernel
set_option maxRecDepth 65536 in
theorem w_heap : heapFits about1 = true := by decide +kernel
set_option maxRecDepth 65536 in
theorem w_runnable : about1.curStatus? = some .runnable := by decide +kernel
set_option maxRecDepth 65536 in
theorem w_alone : about1.alone = true := by decide +kernel
set_option maxRecDepth 65536 in
theorem w_named : about1.methodNamed? x = some theMethod := by decide +kernel
set_option maxRecDepth 65536 in
theorem w_hears : about1.hears theMethod below0 = true := by decide +kernel
set_option maxRecDepth 65536 in
theorem w_ripe : about1.ripe theMethod args0 below0 = true := by decide +kernel
theorem w_running : about1.status = .running := rfl
set_option maxRecDepth 65536 in
theorem w_room : about1.hasRoom e0.platform room_1 = true :=
  launch0.hasRoom_least _ room_1 (by decide +kernel) (by decide +kernel) (by decide +kernel) (by decide +kernel) (by decide +kernel) (by decide +kernel)
theorem allAtoms_all (ts : List Jvm.Cond) (a : Array Jvm.Value) (st : Jvm.State) : (allAtoms ts).before a st = ts.all (fun c => c.before a st) := by
  induction ts with
  | nil => rfl
  | cons c t ih =>
    show (Jvm.Cond.and c (allAtoms t)).before a st = _
    rw [Jvm.Cond.before_and, ih, List.all_cons]
def words1 : List Jvm.Cond := Jvm.Cond.code x code maxLocals ret :: tables_1
/-- a 'code' word, met by the world's own term for the bytes: nothing is compared byte by byte -/
theorem code_word {y : MethodName} {bytes : ByteArray} {mx : Nat} {rt : Option FieldType} {a : Array Value} {s : State} {m : MethodId} {meth : Method} {c : Code} (h1 : s.methodNamed? y = some m) (h2 : s.vm.method? m = some meth) (h3 : meth.code = some c) (h4 : c.code = bytes)
    (h5 : (c.maxLocals == mx && c.exceptionTable.isEmpty && decide (c.maxStack ≤ mostOperands) && decide (meth.sig.returnType = rt) && !meth.locks && decide (parseMethodDescriptor y.desc = some meth.sig)) = true) : (Jvm.Cond.code y bytes mx rt).before a s = true := by
  simp only [Bool.and_eq_true, beq_iff_eq, Bool.not_eq_true', decide_eq_true_eq] at h5
  obtain ⟨⟨⟨⟨⟨g1, g2⟩, g3⟩, g4⟩, g5⟩, g6⟩ := h5
  simp [Cond.before, Cond.holds, Cond.value, h1, h2, h3, h4, g1, g2, g3, g4, g5, g6]
def isCode : Jvm.Cond → Bool
  | .code _ _ _ _ => true
  | _ => false
theorem all_split {L : List Jvm.Cond} {P : Jvm.Cond → Bool} (h1 : L.all (fun c => isCode c || P c) = true) (h2 : ∀ c ∈ L.filter isCode, P c = true) : L.all P = true := by
  refine List.all_eq_true.mpr fun c hc => ?_
  have h := List.all_eq_true.mp h1 c hc
  rcases Bool.eq_false_or_eq_true (isCode c) with hi | hi
  · exact h2 c (List.mem_filter.mpr ⟨hc, hi⟩)
  · simpa [hi] using h
set_option maxRecDepth 65536 in
theorem w_c0 : (Jvm.Cond.code x code maxLocals ret).before args0 about1 = true := code_word (m := ⟨1, 1⟩) (meth := k1m1) (c := k1c1) (by decide +kernel) rfl rfl rfl (by decide +kernel)
set_option maxRecDepth 65536 in
theorem w_c1 : (Jvm.Cond.code ({ cls := "com/example/inline_monitor/inlinemonitor/model/Verdict", name := "isFinal", desc := "()Z" } : Jvm.MethodName) prog_49_method_5_code (1 : Nat) (Option.some Jvm.ClassFile.FieldType.boolean)).before args0 about1 = true := code_word (m := ⟨6, 0⟩) (meth := k6m0) (c := k6c0) (by decide +kernel) rfl rfl rfl (by decide +kernel)
def codes1 : List Jvm.Cond := [Jvm.Cond.code x code maxLocals ret, Jvm.Cond.code ({ cls := "com/example/inline_monitor/inlinemonitor/model/Verdict", name := "isFinal", desc := "()Z" } : Jvm.MethodName) prog_49_method_5_code (1 : Nat) (Option.some Jvm.ClassFile.FieldType.boolean)]
set_option maxRecDepth 65536 in
theorem codes_eq : words1.filter isCode = codes1 := rfl
theorem w_codes : ∀ c ∈ words1.filter isCode, c.before args0 about1 = true := by
  rw [codes_eq]
  intro c hc
  simp only [codes1, List.mem_cons, List.not_mem_nil, or_false] at hc
  rcases hc with rfl | rfl
  · exact w_c0
  · exact w_c1
set_option maxRecDepth 65536 in
theorem w_t1 : words1.all (fun c => isCode c || c.before args0 about1) = true := by decide +kernel
theorem w_tables : (allAtoms (Jvm.Cond.code x code maxLocals ret :: tables_1)).before args0 about1 = true := by
  rw [allAtoms_all]
  show words1.all (fun c => c.before args0 about1) = true
  refine all_split ?_ w_codes
  rw [w_t1]
set_option maxRecDepth 65536 in
theorem w_case : (Jvm.Cond.and given_1 narrow_1).before args0 about1 = true := by decide +kernel
theorem w_applies : (headSpec (Jvm.Cond.code x code maxLocals ret :: tables_1) room_1).applies x e0.platform about1 = true :=
  (Spec.applies_iff w_frames).mpr ⟨w_running, w_runnable, w_alone, w_named, w_hears, w_ripe, w_room, w_tables⟩
theorem atStart : AtStart classFile x code maxLocals ret World_1 tables_1 room_1 Calls_1 rest_1 Pre_1 launch0 p0 e0 about1 theMethod args0 below0 :=
  ⟨lists_1, trivial, launch0.admits_env _ _ _, launch0.least_env, fairChoices_fair.cas, fairChoices_fair.clock, w_frames, w_args, w_heap, w_applies, trivial, trivial, w_case⟩
end start1
theorem witness_1 : WitnessClaimed_1 := ⟨start1.p0, start1.e0, start1.about1, start1.theMethod, start1.args0, start1.below0, start1.atStart⟩
end Jvm.Pilot.@@N@@
