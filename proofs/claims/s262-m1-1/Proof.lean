import JvmDerived
import JvmDerived.Pilot.@@N@@Statement
import JvmDerived.Pilot.@@N@@Code
set_option linter.unusedVariables false
set_option linter.unusedSimpArgs false
namespace Jvm.RoadKit
open Sem ClassFile Op Lib Jvm.Stand Jvm.Free Jvm.LawKit
section New
variable {p : Program} {l : Launch} {e : Env} {R : Room} {s : State} {m : MethodId} {args : Array Value} {below : List Frame} {meth : Method} {c : Code} {T : State} {locs : List Loc} {cells slots : Nat}
theorem retI (X : Stand p l e R s m args below meth c T locs cells slots) (hx : p.tables.exec = Jvm.exec) {pc : Nat} {Ls : Array Slot} {z : Int32} {rest : List Value} (hret : meth.sig.returnType = some .int) (hd : decode c.code pc = .ok (.ireturn, 1)) {fs : List Frame}
    (hl : ∀ (f : JFrame) (acts : List Action), f.method = m → f.locked = none → f.entered = [] → (doReturn e (T.setTop f) acts (some (.int z))).1 = T.setFrames fs) : Steps p.tables e below (T.setTop (mkF m pc Ls (.int z :: rest))) (T.setFrames fs) := by
  have hm' : T.vm.method? m = some meth := X.method'
  have hn : narrow .int (.int z) = .int z := rfl
  show Steps p.tables e below (T.setTop { method := m, pc := pc, locals := Ls, stack := _ :: rest, locked := none }) _
  jvm_step X.here [X.here.top, hx, hd, hm', hret, hn]
  first | (intro acts; rw [hl _ acts rfl rfl rfl]) | rw [hl _ _ rfl rfl rfl]
  exact Steps.refl _
end New
end Jvm.RoadKit
namespace Jvm.Pilot.@@N@@
open Jvm Jvm.ClassFile Sem Op Lib Jvm.Free Jvm.Stand Jvm.LawKit Jvm.RoadKit Bundle Jvm.Pilot.@@N@@.Jvm.D
theorem own_eqint {t : Term} {n : Int32} {args : Array Value} {s : State} (h : (Cond.eq t (.int n)).value args s none s [] = some true) : t.eval args s none [] s = some (.int n) := by
  have hn : (Term.int n).eval args s none [] s = some (.int n) := rfl
  simp only [Cond.value] at h
  rw [hn] at h
  cases hv : t.eval args s none [] s with
  | none => simp [hv] at h
  | some v =>
    cases v with
    | int x => simp [hv] at h; rw [h]
    | _ => simp [hv] at h
theorem pn_0 : plainName "com/example/erewash/erewash/FetchOutcome" = true := by first | (simp [plainName, overriddenIn]; done) | decide +kernel
theorem d1_0 : decode prog_1_method_4_code 0 = .ok (.iload_n 0, 1) := by decide +kernel
theorem d1_1 : decode prog_1_method_4_code 1 = .ok (.bipush 100, 2) := by decide +kernel
theorem d1_3 : decode prog_1_method_4_code 3 = .ok (.idiv, 1) := by decide +kernel
theorem d1_4 : decode prog_1_method_4_code 4 = .ok (.istore_n 1, 1) := by decide +kernel
theorem d1_5 : decode prog_1_method_4_code 5 = .ok (.iload_n 1, 1) := by decide +kernel
theorem d1_6 : decode prog_1_method_4_code 6 = .ok (.iconst 2, 1) := by decide +kernel
theorem d1_7 : decode prog_1_method_4_code 7 = .ok (.if_icmp .ne 10, 3) := by decide +kernel
theorem d1_10 : decode prog_1_method_4_code 10 = .ok (.getstatic 3, 3) := by decide +kernel
theorem d1_13 : decode prog_1_method_4_code 13 = .ok (.astore_n 2, 1) := by decide +kernel
theorem d1_14 : decode prog_1_method_4_code 14 = .ok (.goto 26, 3) := by decide +kernel
theorem d1_17 : decode prog_1_method_4_code 17 = .ok (.iload_n 1, 1) := by decide +kernel
theorem d1_18 : decode prog_1_method_4_code 18 = .ok (.iconst 4, 1) := by decide +kernel
theorem d1_19 : decode prog_1_method_4_code 19 = .ok (.if_icmp .ne 17, 3) := by decide +kernel
theorem d1_22 : decode prog_1_method_4_code 22 = .ok (.iload_n 0, 1) := by decide +kernel
theorem d1_23 : decode prog_1_method_4_code 23 = .ok (.sipush 429, 3) := by decide +kernel
theorem d1_26 : decode prog_1_method_4_code 26 = .ok (.if_icmp .eq 10, 3) := by decide +kernel
theorem d1_29 : decode prog_1_method_4_code 29 = .ok (.getstatic 7, 3) := by decide +kernel
theorem d1_32 : decode prog_1_method_4_code 32 = .ok (.astore_n 2, 1) := by decide +kernel
theorem d1_33 : decode prog_1_method_4_code 33 = .ok (.goto 7, 3) := by decide +kernel
theorem d1_36 : decode prog_1_method_4_code 36 = .ok (.getstatic 10, 3) := by decide +kernel
theorem d1_39 : decode prog_1_method_4_code 39 = .ok (.astore_n 2, 1) := by decide +kernel
theorem d1_40 : decode prog_1_method_4_code 40 = .ok (.aload_n 2, 1) := by decide +kernel
theorem d1_41 : decode prog_1_method_4_code 41 = .ok (.areturn, 1) := by decide +kernel
theorem ef_1 (m : MethodId) (x0 : Int32) : entryFrame m #[(.int x0)] 3 = mkF m 0 #[.val (.int x0), .unset, .unset] [] := by first | (simp [entryFrame, mkF, argsToLocals, Value.category]; done) | rfl
def f1 (p1 : Int32) (w_UNREACHABLE : Addr) (w_PARSED : Addr) (w_UNAVAILABLE : Addr) : Addr := (if (p1 / (100 : Int32)) = (2 : Int32) then w_PARSED else (if (p1 / (100 : Int32)) = (4 : Int32) then (if p1 = (429 : Int32) then w_UNREACHABLE else w_UNAVAILABLE) else w_UNREACHABLE))
def Q1 (Z : State) (p1 : Int32) (w_UNREACHABLE : Addr) (w_PARSED : Addr) (w_UNAVAILABLE : Addr) (h0 : Heap) (n0 : Nat) (v : Option Value) (h : Heap) (L : List Loc) : Prop := v = some (.ref (f1 p1 w_UNREACHABLE w_PARSED w_UNAVAILABLE)) ∧ Fr n0 L ∧ h = h0
set_option maxRecDepth 65536 in
set_option maxHeartbeats 40000000 in
theorem rm1 (l : Launch) (Z : State) (a0 : Array Value) (hw : ∀ d ∈ tables_1, d.before a0 Z = true) (ws : List Jvm.Cond) (p1 : Int32) (w_UNREACHABLE : Addr) (w_PARSED : Addr) (w_UNAVAILABLE : Addr) (h0 : Heap) (n0 : Nat) (Z0 : n0 ≤ h0.size) (S_UNREACHABLE : Sta Z h0 "com/example/erewash/erewash/FetchOutcome" "UNREACHABLE" "Lcom/example/erewash/erewash/FetchOutcome;" (.ref w_UNREACHABLE)) (S_PARSED : Sta Z h0 "com/example/erewash/erewash/FetchOutcome" "PARSED" "Lcom/example/erewash/erewash/FetchOutcome;" (.ref w_PARSED)) (S_UNAVAILABLE : Sta Z h0 "com/example/erewash/erewash/FetchOutcome" "UNAVAILABLE" "Lcom/example/erewash/erewash/FetchOutcome;" (.ref w_UNAVAILABLE)) :
    MetFree l (⟨"com/example/erewash/erewash/FetchOutcome", "ofStatus", "(I)Lcom/example/erewash/erewash/FetchOutcome;"⟩ : MethodName) (head1 (Jvm.Cond.code (⟨"com/example/erewash/erewash/FetchOutcome", "ofStatus", "(I)Lcom/example/erewash/erewash/FetchOutcome;"⟩ : MethodName) prog_1_method_4_code 3 (some (.object "com/example/erewash/erewash/FetchOutcome")) :: ws) ({ frames := 0, cells := 0, slots := 0, locals := 0 } : Room)) (fun a U => a = #[(.int p1)] ∧ Z.Warmed39 U.vm ∧ U.heap = h0) (fun _ _ _ _ _ => True) (fun _ U o U' => ∃ v L, o = .returned v ∧ Q1 Z p1 w_UNREACHABLE w_PARSED w_UNAVAILABLE h0 n0 v U'.heap L ∧ FrameEnd U o U' L ({ frames := 0, cells := 0, slots := 0, locals := 0 } : Room).cells ({ frames := 0, cells := 0, slots := 0, locals := 0 } : Room).slots) := by
  refine MetFree.of_bodySF (plainFor_of_name pn_0) hisR ?_
  intro p e s m args below meth c s₁ Bd hml0 hP hK
  obtain ⟨rfl, hZ, hh⟩ := hP
  have hx := Bd.exec
  have hby := Bd.bytes
  have hml : c.maxLocals = 3 := hml0
  have hown : s.vm.findClass "com/example/erewash/erewash/FetchOutcome" = some m.cls := findClass_of_methodNamed Bd.named
  have hnm := (name_of_methodNamed Bd.named Bd.method).1
  have X0 : Stand p l e ({ frames := 0, cells := 0, slots := 0, locals := 0 } : Room) s m #[(.int p1)] below meth c s₁ [] 0 0 := Stand.of_body Bd
  have e0 : s₁.heap = h0 := by rw [← hh, Bd.state]; rfl
  have N0 := Fr.nil n0
  have pre0 : ∀ t, Steps p.tables e below (s₁.setTop (mkF m 0 #[.val (.int p1), .unset, .unset] [])) t → Steps p.tables e below (s₁.setTop (entryFrame m #[(.int p1)] 3)) t := fun t k => castTop (ef_1 m p1) k
  have pre1 : ∀ t, Steps p.tables e below (s₁.setTop (mkF m 7 #[.val (.int p1), .val (.int (p1 / (100 : Int32))), .unset] [(.int (2 : Int32)), (.int (p1 / (100 : Int32)))])) t → Steps p.tables e below (s₁.setTop (entryFrame m #[(.int p1)] 3)) t := by
    intro t k
    refine pre0 t ?_
    show Steps p.tables e below (s₁.setTop (mkF m 0 #[.val (.int p1), .unset, .unset] [])) _
    refine XS.iloadN X0.here hx rfl (hb hby d1_0) rfl ?_
    show Steps p.tables e below (s₁.setTop (mkF m 1 #[.val (.int p1), .unset, .unset] [(.int p1)])) _
    refine XS.bipush X0.here hx rfl (hb hby d1_1) ?_
    show Steps p.tables e below (s₁.setTop (mkF m 3 #[.val (.int p1), .unset, .unset] [(.int (100 : Int32)), (.int p1)])) _
    refine XS.idiv X0.here hx rfl (hb hby d1_3) rfl (by decide) ?_
    show Steps p.tables e below (s₁.setTop (mkF m 4 #[.val (.int p1), .unset, .unset] [(.int (p1 / (100 : Int32)))])) _
    refine XS.istoreN X0.here hx rfl (hb hby d1_4) rfl (l' := #[.val (.int p1), .val (.int (p1 / (100 : Int32))), .unset]) rfl ?_
    show Steps p.tables e below (s₁.setTop (mkF m 5 #[.val (.int p1), .val (.int (p1 / (100 : Int32))), .unset] [])) _
    refine XS.iloadN X0.here hx rfl (hb hby d1_5) rfl ?_
    show Steps p.tables e below (s₁.setTop (mkF m 6 #[.val (.int p1), .val (.int (p1 / (100 : Int32))), .unset] [(.int (p1 / (100 : Int32)))])) _
    refine XS.iconst X0.here hx rfl (hb hby d1_6) ?_
    exact k
  by_cases hc7 : (p1 / (100 : Int32)) = (2 : Int32)
  · obtain ⟨T6, X6, e6, st6⟩ := getS2 X0 hx hZ hown (host := "") (Or.inl (hw _ (List.mem_of_getElem? (i := 10) rfl))) Via.refl e0 S_PARSED (g := (mkF m 10 #[.val (.int p1), .val (.int (p1 / (100 : Int32))), .unset] [])) rfl (hb hby d1_10)
    have eq2 : (f1 p1 w_UNREACHABLE w_PARSED w_UNAVAILABLE) = w_PARSED := by unfold f1; simp only [if_pos hc7]
    obtain ⟨fs, hr, hrun, hended, hW, hsame⟩ := X6.leave (v := some (.ref w_PARSED)) (fun h => by rw [Bd.returns] at h; cases h)
    refine ⟨_, _, pre1 _ ?_, hrun, hended, _, _, rfl, ?_, ⟨_, rfl⟩, hW, hsame.mono (by decide) (by decide)⟩
    · show Steps p.tables e below (s₁.setTop (mkF m 7 #[.val (.int p1), .val (.int (p1 / (100 : Int32))), .unset] [(.int (2 : Int32)), (.int (p1 / (100 : Int32)))])) _
      refine XS.icmpNo X0.here hx rfl (hb hby d1_7) rfl (teq hc7).2 ?_
      show Steps p.tables e below (s₁.setTop (mkF m 10 #[.val (.int p1), .val (.int (p1 / (100 : Int32))), .unset] [])) _
      refine st6 _ ?_
      show Steps p.tables e below (T6.setTop (mkF m 13 #[.val (.int p1), .val (.int (p1 / (100 : Int32))), .unset] [(.ref w_PARSED)])) _
      refine XS.astoreN X6.here hx rfl (hb hby d1_13) rfl rfl (l' := #[.val (.int p1), .val (.int (p1 / (100 : Int32))), .val (.ref w_PARSED)]) rfl ?_
      show Steps p.tables e below (T6.setTop (mkF m 14 #[.val (.int p1), .val (.int (p1 / (100 : Int32))), .val (.ref w_PARSED)] [])) _
      refine XS.goto X6.here hx rfl (pc0 := 14) (pc' := 40) rfl (hb hby d1_14) (by decide) (by decide) ?_
      show Steps p.tables e below (T6.setTop (mkF m 40 #[.val (.int p1), .val (.int (p1 / (100 : Int32))), .val (.ref w_PARSED)] [])) _
      refine XS.aloadN X6.here hx rfl (hb hby d1_40) rfl rfl ?_
      show Steps p.tables e below (T6.setTop (mkF m 41 #[.val (.int p1), .val (.int (p1 / (100 : Int32))), .val (.ref w_PARSED)] [(.ref w_PARSED)])) _
      jvm_step X6.here [X6.here.top, hx, (hb hby d1_41), X6.method', Bd.returns, Value.isRef, FieldType.isReference]
      first | (intro acts; rw [hr _ acts rfl rfl rfl]) | rw [hr _ _ rfl rfl rfl]
      exact Steps.refl _
    · show Q1 Z p1 w_UNREACHABLE w_PARSED w_UNAVAILABLE h0 n0 _ T6.heap _
      rw [e6]
      exact ⟨by rw [eq2], N0, rfl⟩
  · have pre3 : ∀ t, Steps p.tables e below (s₁.setTop (mkF m 19 #[.val (.int p1), .val (.int (p1 / (100 : Int32))), .unset] [(.int (4 : Int32)), (.int (p1 / (100 : Int32)))])) t → Steps p.tables e below (s₁.setTop (entryFrame m #[(.int p1)] 3)) t := by
      intro t k
      refine pre1 t ?_
      show Steps p.tables e below (s₁.setTop (mkF m 7 #[.val (.int p1), .val (.int (p1 / (100 : Int32))), .unset] [(.int (2 : Int32)), (.int (p1 / (100 : Int32)))])) _
      refine XS.icmpYes X0.here hx rfl (pc0 := 7) (pc' := 17) rfl (hb hby d1_7) rfl (feq hc7).2 (by decide) (by decide) ?_
      show Steps p.tables e below (s₁.setTop (mkF m 17 #[.val (.int p1), .val (.int (p1 / (100 : Int32))), .unset] [])) _
      refine XS.iloadN X0.here hx rfl (hb hby d1_17) rfl ?_
      show Steps p.tables e below (s₁.setTop (mkF m 18 #[.val (.int p1), .val (.int (p1 / (100 : Int32))), .unset] [(.int (p1 / (100 : Int32)))])) _
      refine XS.iconst X0.here hx rfl (hb hby d1_18) ?_
      exact k
    by_cases hc19 : (p1 / (100 : Int32)) = (4 : Int32)
    · have pre4 : ∀ t, Steps p.tables e below (s₁.setTop (mkF m 26 #[.val (.int p1), .val (.int (p1 / (100 : Int32))), .unset] [(.int (429 : Int32)), (.int p1)])) t → Steps p.tables e below (s₁.setTop (entryFrame m #[(.int p1)] 3)) t := by
        intro t k
        refine pre3 t ?_
        show Steps p.tables e below (s₁.setTop (mkF m 19 #[.val (.int p1), .val (.int (p1 / (100 : Int32))), .unset] [(.int (4 : Int32)), (.int (p1 / (100 : Int32)))])) _
        refine XS.icmpNo X0.here hx rfl (hb hby d1_19) rfl (teq hc19).2 ?_
        show Steps p.tables e below (s₁.setTop (mkF m 22 #[.val (.int p1), .val (.int (p1 / (100 : Int32))), .unset] [])) _
        refine XS.iloadN X0.here hx rfl (hb hby d1_22) rfl ?_
        show Steps p.tables e below (s₁.setTop (mkF m 23 #[.val (.int p1), .val (.int (p1 / (100 : Int32))), .unset] [(.int p1)])) _
        refine XS.sipush X0.here hx rfl (hb hby d1_23) ?_
        exact k
      by_cases hc26 : p1 = (429 : Int32)
      · obtain ⟨T12, X12, e12, st12⟩ := getS2 X0 hx hZ hown (host := "") (Or.inl (hw _ (List.mem_of_getElem? (i := 7) rfl))) Via.refl e0 S_UNREACHABLE (g := (mkF m 36 #[.val (.int p1), .val (.int (p1 / (100 : Int32))), .unset] [])) rfl (hb hby d1_36)
        have eq5 : (f1 p1 w_UNREACHABLE w_PARSED w_UNAVAILABLE) = w_UNREACHABLE := by unfold f1; simp only [if_neg hc7, if_pos hc19, if_pos hc26]
        obtain ⟨fs, hr, hrun, hended, hW, hsame⟩ := X12.leave (v := some (.ref w_UNREACHABLE)) (fun h => by rw [Bd.returns] at h; cases h)
        refine ⟨_, _, pre4 _ ?_, hrun, hended, _, _, rfl, ?_, ⟨_, rfl⟩, hW, hsame.mono (by decide) (by decide)⟩
        · show Steps p.tables e below (s₁.setTop (mkF m 26 #[.val (.int p1), .val (.int (p1 / (100 : Int32))), .unset] [(.int (429 : Int32)), (.int p1)])) _
          refine XS.icmpYes X0.here hx rfl (pc0 := 26) (pc' := 36) rfl (hb hby d1_26) rfl (teq hc26).1 (by decide) (by decide) ?_
          show Steps p.tables e below (s₁.setTop (mkF m 36 #[.val (.int p1), .val (.int (p1 / (100 : Int32))), .unset] [])) _
          refine st12 _ ?_
          show Steps p.tables e below (T12.setTop (mkF m 39 #[.val (.int p1), .val (.int (p1 / (100 : Int32))), .unset] [(.ref w_UNREACHABLE)])) _
          refine XS.astoreN X12.here hx rfl (hb hby d1_39) rfl rfl (l' := #[.val (.int p1), .val (.int (p1 / (100 : Int32))), .val (.ref w_UNREACHABLE)]) rfl ?_
          show Steps p.tables e below (T12.setTop (mkF m 40 #[.val (.int p1), .val (.int (p1 / (100 : Int32))), .val (.ref w_UNREACHABLE)] [])) _
          refine XS.aloadN X12.here hx rfl (hb hby d1_40) rfl rfl ?_
          show Steps p.tables e below (T12.setTop (mkF m 41 #[.val (.int p1), .val (.int (p1 / (100 : Int32))), .val (.ref w_UNREACHABLE)] [(.ref w_UNREACHABLE)])) _
          jvm_step X12.here [X12.here.top, hx, (hb hby d1_41), X12.method', Bd.returns, Value.isRef, FieldType.isReference]
          first | (intro acts; rw [hr _ acts rfl rfl rfl]) | rw [hr _ _ rfl rfl rfl]
          exact Steps.refl _
        · show Q1 Z p1 w_UNREACHABLE w_PARSED w_UNAVAILABLE h0 n0 _ T12.heap _
          rw [e12]
          exact ⟨by rw [eq5], N0, rfl⟩
      · obtain ⟨T13, X13, e13, st13⟩ := getS2 X0 hx hZ hown (host := "") (Or.inl (hw _ (List.mem_of_getElem? (i := 13) rfl))) Via.refl e0 S_UNAVAILABLE (g := (mkF m 29 #[.val (.int p1), .val (.int (p1 / (100 : Int32))), .unset] [])) rfl (hb hby d1_29)
        have eq6 : (f1 p1 w_UNREACHABLE w_PARSED w_UNAVAILABLE) = w_UNAVAILABLE := by unfold f1; simp only [if_neg hc7, if_pos hc19, if_neg hc26]
        obtain ⟨fs, hr, hrun, hended, hW, hsame⟩ := X13.leave (v := some (.ref w_UNAVAILABLE)) (fun h => by rw [Bd.returns] at h; cases h)
        refine ⟨_, _, pre4 _ ?_, hrun, hended, _, _, rfl, ?_, ⟨_, rfl⟩, hW, hsame.mono (by decide) (by decide)⟩
        · show Steps p.tables e below (s₁.setTop (mkF m 26 #[.val (.int p1), .val (.int (p1 / (100 : Int32))), .unset] [(.int (429 : Int32)), (.int p1)])) _
          refine XS.icmpNo X0.here hx rfl (hb hby d1_26) rfl (feq hc26).1 ?_
          show Steps p.tables e below (s₁.setTop (mkF m 29 #[.val (.int p1), .val (.int (p1 / (100 : Int32))), .unset] [])) _
          refine st13 _ ?_
          show Steps p.tables e below (T13.setTop (mkF m 32 #[.val (.int p1), .val (.int (p1 / (100 : Int32))), .unset] [(.ref w_UNAVAILABLE)])) _
          refine XS.astoreN X13.here hx rfl (hb hby d1_32) rfl rfl (l' := #[.val (.int p1), .val (.int (p1 / (100 : Int32))), .val (.ref w_UNAVAILABLE)]) rfl ?_
          show Steps p.tables e below (T13.setTop (mkF m 33 #[.val (.int p1), .val (.int (p1 / (100 : Int32))), .val (.ref w_UNAVAILABLE)] [])) _
          refine XS.goto X13.here hx rfl (pc0 := 33) (pc' := 40) rfl (hb hby d1_33) (by decide) (by decide) ?_
          show Steps p.tables e below (T13.setTop (mkF m 40 #[.val (.int p1), .val (.int (p1 / (100 : Int32))), .val (.ref w_UNAVAILABLE)] [])) _
          refine XS.aloadN X13.here hx rfl (hb hby d1_40) rfl rfl ?_
          show Steps p.tables e below (T13.setTop (mkF m 41 #[.val (.int p1), .val (.int (p1 / (100 : Int32))), .val (.ref w_UNAVAILABLE)] [(.ref w_UNAVAILABLE)])) _
          jvm_step X13.here [X13.here.top, hx, (hb hby d1_41), X13.method', Bd.returns, Value.isRef, FieldType.isReference]
          first | (intro acts; rw [hr _ acts rfl rfl rfl]) | rw [hr _ _ rfl rfl rfl]
          exact Steps.refl _
        · show Q1 Z p1 w_UNREACHABLE w_PARSED w_UNAVAILABLE h0 n0 _ T13.heap _
          rw [e13]
          exact ⟨by rw [eq6], N0, rfl⟩
    · obtain ⟨T14, X14, e14, st14⟩ := getS2 X0 hx hZ hown (host := "") (Or.inl (hw _ (List.mem_of_getElem? (i := 7) rfl))) Via.refl e0 S_UNREACHABLE (g := (mkF m 36 #[.val (.int p1), .val (.int (p1 / (100 : Int32))), .unset] [])) rfl (hb hby d1_36)
      have eq7 : (f1 p1 w_UNREACHABLE w_PARSED w_UNAVAILABLE) = w_UNREACHABLE := by unfold f1; simp only [if_neg hc7, if_neg hc19]
      obtain ⟨fs, hr, hrun, hended, hW, hsame⟩ := X14.leave (v := some (.ref w_UNREACHABLE)) (fun h => by rw [Bd.returns] at h; cases h)
      refine ⟨_, _, pre3 _ ?_, hrun, hended, _, _, rfl, ?_, ⟨_, rfl⟩, hW, hsame.mono (by decide) (by decide)⟩
      · show Steps p.tables e below (s₁.setTop (mkF m 19 #[.val (.int p1), .val (.int (p1 / (100 : Int32))), .unset] [(.int (4 : Int32)), (.int (p1 / (100 : Int32)))])) _
        refine XS.icmpYes X0.here hx rfl (pc0 := 19) (pc' := 36) rfl (hb hby d1_19) rfl (feq hc19).2 (by decide) (by decide) ?_
        show Steps p.tables e below (s₁.setTop (mkF m 36 #[.val (.int p1), .val (.int (p1 / (100 : Int32))), .unset] [])) _
        refine st14 _ ?_
        show Steps p.tables e below (T14.setTop (mkF m 39 #[.val (.int p1), .val (.int (p1 / (100 : Int32))), .unset] [(.ref w_UNREACHABLE)])) _
        refine XS.astoreN X14.here hx rfl (hb hby d1_39) rfl rfl (l' := #[.val (.int p1), .val (.int (p1 / (100 : Int32))), .val (.ref w_UNREACHABLE)]) rfl ?_
        show Steps p.tables e below (T14.setTop (mkF m 40 #[.val (.int p1), .val (.int (p1 / (100 : Int32))), .val (.ref w_UNREACHABLE)] [])) _
        refine XS.aloadN X14.here hx rfl (hb hby d1_40) rfl rfl ?_
        show Steps p.tables e below (T14.setTop (mkF m 41 #[.val (.int p1), .val (.int (p1 / (100 : Int32))), .val (.ref w_UNREACHABLE)] [(.ref w_UNREACHABLE)])) _
        jvm_step X14.here [X14.here.top, hx, (hb hby d1_41), X14.method', Bd.returns, Value.isRef, FieldType.isReference]
        first | (intro acts; rw [hr _ acts rfl rfl rfl]) | rw [hr _ _ rfl rfl rfl]
        exact Steps.refl _
      · show Q1 Z p1 w_UNREACHABLE w_PARSED w_UNAVAILABLE h0 n0 _ T14.heap _
        rw [e14]
        exact ⟨by rw [eq7], N0, rfl⟩
theorem pd_0 : parseMethodDescriptor "(I)Lcom/example/erewash/erewash/FetchOutcome;" = some ⟨[.int], some (.object "com/example/erewash/erewash/FetchOutcome")⟩ := by decide +kernel
theorem pn_1 : plainName "com/example/erewash/erewash/FetchOutcomeOfStatusPinLaw" = true := by first | (simp [plainName, overriddenIn]; done) | decide +kernel
theorem ef_0 (m : MethodId) (x0 : Int32) (x1 : Int32) : entryFrame m #[(.int x0), (.int x1)] maxLocals = mkF m 0 #[.val (.int x0), .val (.int x1), .unset, .unset] [] := by first | (simp [entryFrame, mkF, argsToLocals, Value.category, maxLocals]; done) | rfl
def f0_v13 (p1 : Int32) (p2 : Int32) (w_UNREACHABLE : Addr) (w_PARSED : Addr) (w_UNAVAILABLE : Addr) : Int32 := ((p1 &&& (2147483647 : Int32)) - ((p1 &&& (2147483647 : Int32)) / (750 : Int32)) * (750 : Int32))
def f0_l2_23 (p1 : Int32) (p2 : Int32) (w_UNREACHABLE : Addr) (w_PARSED : Addr) (w_UNAVAILABLE : Addr) : Int32 := (if (p2 &&& (1 : Int32)) = (0 : Int32) then p1 else ((f0_v13 p1 p2 w_UNREACHABLE w_PARSED w_UNAVAILABLE) - (50 : Int32)))
def f0 (p1 : Int32) (p2 : Int32) (w_UNREACHABLE : Addr) (w_PARSED : Addr) (w_UNAVAILABLE : Addr) : Int32 := (if (f0_l2_23 p1 p2 w_UNREACHABLE w_PARSED w_UNAVAILABLE) < (200 : Int32) then (if (f0_l2_23 p1 p2 w_UNREACHABLE w_PARSED w_UNAVAILABLE) < (400 : Int32) then (if (f1 (f0_l2_23 p1 p2 w_UNREACHABLE w_PARSED w_UNAVAILABLE) w_UNREACHABLE w_PARSED w_UNAVAILABLE) = w_UNREACHABLE then (1 : Int32) else (0 : Int32)) else (if (499 : Int32) < (f0_l2_23 p1 p2 w_UNREACHABLE w_PARSED w_UNAVAILABLE) then (if (f1 (f0_l2_23 p1 p2 w_UNREACHABLE w_PARSED w_UNAVAILABLE) w_UNREACHABLE w_PARSED w_UNAVAILABLE) = w_UNREACHABLE then (1 : Int32) else (0 : Int32)) else (if (f0_l2_23 p1 p2 w_UNREACHABLE w_PARSED w_UNAVAILABLE) = (429 : Int32) then (if (f1 (f0_l2_23 p1 p2 w_UNREACHABLE w_PARSED w_UNAVAILABLE) w_UNREACHABLE w_PARSED w_UNAVAILABLE) = w_UNREACHABLE then (1 : Int32) else (0 : Int32)) else (if (f1 (f0_l2_23 p1 p2 w_UNREACHABLE w_PARSED w_UNAVAILABLE) w_UNREACHABLE w_PARSED w_UNAVAILABLE) = w_UNAVAILABLE then (1 : Int32) else (0 : Int32))))) else (if (299 : Int32) < (f0_l2_23 p1 p2 w_UNREACHABLE w_PARSED w_UNAVAILABLE) then (if (f0_l2_23 p1 p2 w_UNREACHABLE w_PARSED w_UNAVAILABLE) < (400 : Int32) then (if (f1 (f0_l2_23 p1 p2 w_UNREACHABLE w_PARSED w_UNAVAILABLE) w_UNREACHABLE w_PARSED w_UNAVAILABLE) = w_UNREACHABLE then (1 : Int32) else (0 : Int32)) else (if (499 : Int32) < (f0_l2_23 p1 p2 w_UNREACHABLE w_PARSED w_UNAVAILABLE) then (if (f1 (f0_l2_23 p1 p2 w_UNREACHABLE w_PARSED w_UNAVAILABLE) w_UNREACHABLE w_PARSED w_UNAVAILABLE) = w_UNREACHABLE then (1 : Int32) else (0 : Int32)) else (if (f0_l2_23 p1 p2 w_UNREACHABLE w_PARSED w_UNAVAILABLE) = (429 : Int32) then (if (f1 (f0_l2_23 p1 p2 w_UNREACHABLE w_PARSED w_UNAVAILABLE) w_UNREACHABLE w_PARSED w_UNAVAILABLE) = w_UNREACHABLE then (1 : Int32) else (0 : Int32)) else (if (f1 (f0_l2_23 p1 p2 w_UNREACHABLE w_PARSED w_UNAVAILABLE) w_UNREACHABLE w_PARSED w_UNAVAILABLE) = w_UNAVAILABLE then (1 : Int32) else (0 : Int32))))) else (if (f1 (f0_l2_23 p1 p2 w_UNREACHABLE w_PARSED w_UNAVAILABLE) w_UNREACHABLE w_PARSED w_UNAVAILABLE) = w_PARSED then (1 : Int32) else (0 : Int32))))
def Q0 (Z : State) (p1 : Int32) (p2 : Int32) (w_UNREACHABLE : Addr) (w_PARSED : Addr) (w_UNAVAILABLE : Addr) (h0 : Heap) (n0 : Nat) (v : Option Value) (h : Heap) (L : List Loc) : Prop := v = some (.int (f0 p1 p2 w_UNREACHABLE w_PARSED w_UNAVAILABLE)) ∧ Fr n0 L ∧ True
set_option maxRecDepth 65536 in
set_option maxHeartbeats 40000000 in
theorem rm0 (l : Launch) (Z : State) (a0 : Array Value) (hw : ∀ d ∈ tables_1, d.before a0 Z = true) (ws : List Jvm.Cond) (p1 : Int32) (p2 : Int32) (w_UNREACHABLE : Addr) (w_PARSED : Addr) (w_UNAVAILABLE : Addr) (h0 : Heap) (n0 : Nat) (Z0 : n0 ≤ h0.size) (S_UNREACHABLE : Sta Z h0 "com/example/erewash/erewash/FetchOutcome" "UNREACHABLE" "Lcom/example/erewash/erewash/FetchOutcome;" (.ref w_UNREACHABLE)) (S_PARSED : Sta Z h0 "com/example/erewash/erewash/FetchOutcome" "PARSED" "Lcom/example/erewash/erewash/FetchOutcome;" (.ref w_PARSED)) (S_UNAVAILABLE : Sta Z h0 "com/example/erewash/erewash/FetchOutcome" "UNAVAILABLE" "Lcom/example/erewash/erewash/FetchOutcome;" (.ref w_UNAVAILABLE)) (E_w_UNREACHABLE : Exa Z h0 w_UNREACHABLE "com/example/erewash/erewash/FetchOutcome") (E_w_PARSED : Exa Z h0 w_PARSED "com/example/erewash/erewash/FetchOutcome") (E_w_UNAVAILABLE : Exa Z h0 w_UNAVAILABLE "com/example/erewash/erewash/FetchOutcome") :
    MetFree l x (head1 (Jvm.Cond.code x code maxLocals ret :: ws) room_1) (fun a U => a = #[(.int p1), (.int p2)] ∧ Z.Warmed39 U.vm ∧ U.heap = h0) (fun _ _ _ _ _ => True) (fun _ U o U' => ∃ v L, o = .returned v ∧ Q0 Z p1 p2 w_UNREACHABLE w_PARSED w_UNAVAILABLE h0 n0 v U'.heap L ∧ FrameEnd U o U' L room_1.cells room_1.slots) := by
  refine MetFree.of_bodySF (plainFor_of_name pn_1) hisR ?_
  intro p e s m args below meth c s₁ Bd hml0 hP hK
  obtain ⟨rfl, hZ, hh⟩ := hP
  have hx := Bd.exec
  have hby := Bd.bytes
  have hml : c.maxLocals = 4 := hml0
  have hown : s.vm.findClass "com/example/erewash/erewash/FetchOutcomeOfStatusPinLaw" = some m.cls := findClass_of_methodNamed Bd.named
  have hnm := (name_of_methodNamed Bd.named Bd.method).1
  have X0 : Stand p l e room_1 s m #[(.int p1), (.int p2)] below meth c s₁ [] 0 0 := Stand.of_body Bd
  have e0 : s₁.heap = h0 := by rw [← hh, Bd.state]; rfl
  have N0 := Fr.nil n0
  have pre0 : ∀ t, Steps p.tables e below (s₁.setTop (mkF m 0 #[.val (.int p1), .val (.int p2), .unset, .unset] [])) t → Steps p.tables e below (s₁.setTop (entryFrame m #[(.int p1), (.int p2)] maxLocals)) t := fun t k => castTop (ef_0 m p1 p2) k
  have pre1 : ∀ t, Steps p.tables e below (s₁.setTop (mkF m 3 #[.val (.int p1), .val (.int p2), .unset, .unset] [(.int (p2 &&& (1 : Int32)))])) t → Steps p.tables e below (s₁.setTop (entryFrame m #[(.int p1), (.int p2)] maxLocals)) t := by
    intro t k
    refine pre0 t ?_
    show Steps p.tables e below (s₁.setTop (mkF m 0 #[.val (.int p1), .val (.int p2), .unset, .unset] [])) _
    refine XS.iloadN X0.here hx rfl (hb hby at_0) rfl ?_
    show Steps p.tables e below (s₁.setTop (mkF m 1 #[.val (.int p1), .val (.int p2), .unset, .unset] [(.int p2)])) _
    refine XS.iconst X0.here hx rfl (hb hby at_1) ?_
    show Steps p.tables e below (s₁.setTop (mkF m 2 #[.val (.int p1), .val (.int p2), .unset, .unset] [(.int (1 : Int32)), (.int p2)])) _
    refine XS.iand X0.here hx rfl (hb hby at_2) rfl ?_
    exact k
  have pre2 : ∀ t, Steps p.tables e below (s₁.setTop (mkF m 23 #[.val (.int p1), .val (.int p2), .val (.int (f0_l2_23 p1 p2 w_UNREACHABLE w_PARSED w_UNAVAILABLE)), .unset] [])) t → Steps p.tables e below (s₁.setTop (entryFrame m #[(.int p1), (.int p2)] maxLocals)) t := by
    intro t k
    by_cases hc3 : (p2 &&& (1 : Int32)) = (0 : Int32)
    · have eq3 := (show (f0_l2_23 p1 p2 w_UNREACHABLE w_PARSED w_UNAVAILABLE) = p1 from by unfold f0_l2_23; simp only [if_pos hc3])
      try rw [eq3] at k
      refine pre1 t ?_
      show Steps p.tables e below (s₁.setTop (mkF m 3 #[.val (.int p1), .val (.int p2), .unset, .unset] [(.int (p2 &&& (1 : Int32)))])) _
      refine XS.ifYes X0.here hx rfl (pc0 := 3) (pc' := 21) rfl (hb hby at_3) rfl ((if0 _ _).trans (teq hc3).1) (by decide) (by decide) ?_
      show Steps p.tables e below (s₁.setTop (mkF m 21 #[.val (.int p1), .val (.int p2), .unset, .unset] [])) _
      refine XS.iloadN X0.here hx rfl (hb hby at_21) rfl ?_
      show Steps p.tables e below (s₁.setTop (mkF m 22 #[.val (.int p1), .val (.int p2), .unset, .unset] [(.int p1)])) _
      refine XS.istoreN X0.here hx rfl (hb hby at_22) rfl (l' := #[.val (.int p1), .val (.int p2), .val (.int p1), .unset]) rfl ?_
      exact k
    · have eq4 := (show (f0_l2_23 p1 p2 w_UNREACHABLE w_PARSED w_UNAVAILABLE) = ((f0_v13 p1 p2 w_UNREACHABLE w_PARSED w_UNAVAILABLE) - (50 : Int32)) from by unfold f0_l2_23; simp only [if_neg hc3])
      try rw [eq4] at k
      refine pre1 t ?_
      show Steps p.tables e below (s₁.setTop (mkF m 3 #[.val (.int p1), .val (.int p2), .unset, .unset] [(.int (p2 &&& (1 : Int32)))])) _
      refine XS.ifNo X0.here hx rfl (hb hby at_3) rfl ((if0 _ _).trans (feq hc3).1) ?_
      show Steps p.tables e below (s₁.setTop (mkF m 6 #[.val (.int p1), .val (.int p2), .unset, .unset] [])) _
      refine XS.iloadN X0.here hx rfl (hb hby at_6) rfl ?_
      show Steps p.tables e below (s₁.setTop (mkF m 7 #[.val (.int p1), .val (.int p2), .unset, .unset] [(.int p1)])) _
      refine X0.ldcInt hx hown (mvT hZ (hw _ (List.mem_of_getElem? (i := 0) rfl))) (g := (mkF m 7 #[.val (.int p1), .val (.int p2), .unset, .unset] [(.int p1)])) rfl (hb hby at_7) _ ?_
      show Steps p.tables e below (s₁.setTop (mkF m 9 #[.val (.int p1), .val (.int p2), .unset, .unset] [(.int (2147483647 : Int32)), (.int p1)])) _
      refine XS.iand X0.here hx rfl (hb hby at_9) rfl ?_
      show Steps p.tables e below (s₁.setTop (mkF m 10 #[.val (.int p1), .val (.int p2), .unset, .unset] [(.int (p1 &&& (2147483647 : Int32)))])) _
      refine XS.sipush X0.here hx rfl (hb hby at_10) ?_
      show Steps p.tables e below (s₁.setTop (mkF m 13 #[.val (.int p1), .val (.int p2), .unset, .unset] [(.int (750 : Int32)), (.int (p1 &&& (2147483647 : Int32)))])) _
      refine XS.irem X0.here hx rfl (hb hby at_13) rfl (by decide) ?_
      show Steps p.tables e below (s₁.setTop (mkF m 14 #[.val (.int p1), .val (.int p2), .unset, .unset] [(.int (f0_v13 p1 p2 w_UNREACHABLE w_PARSED w_UNAVAILABLE))])) _
      refine XS.bipush X0.here hx rfl (hb hby at_14) ?_
      show Steps p.tables e below (s₁.setTop (mkF m 16 #[.val (.int p1), .val (.int p2), .unset, .unset] [(.int (50 : Int32)), (.int (f0_v13 p1 p2 w_UNREACHABLE w_PARSED w_UNAVAILABLE))])) _
      refine XS.isub X0.here hx rfl (hb hby at_16) rfl ?_
      show Steps p.tables e below (s₁.setTop (mkF m 17 #[.val (.int p1), .val (.int p2), .unset, .unset] [(.int ((f0_v13 p1 p2 w_UNREACHABLE w_PARSED w_UNAVAILABLE) - (50 : Int32)))])) _
      refine XS.istoreN X0.here hx rfl (hb hby at_17) rfl (l' := #[.val (.int p1), .val (.int p2), .val (.int ((f0_v13 p1 p2 w_UNREACHABLE w_PARSED w_UNAVAILABLE) - (50 : Int32))), .unset]) rfl ?_
      show Steps p.tables e below (s₁.setTop (mkF m 18 #[.val (.int p1), .val (.int p2), .val (.int ((f0_v13 p1 p2 w_UNREACHABLE w_PARSED w_UNAVAILABLE) - (50 : Int32))), .unset] [])) _
      refine XS.goto X0.here hx rfl (pc0 := 18) (pc' := 23) rfl (hb hby at_18) (by decide) (by decide) ?_
      exact k
  have pre5 : ∀ t, Steps p.tables e below (s₁.setTop (mkF m 27 #[.val (.int p1), .val (.int p2), .val (.int (f0_l2_23 p1 p2 w_UNREACHABLE w_PARSED w_UNAVAILABLE)), .unset] [(.int (200 : Int32)), (.int (f0_l2_23 p1 p2 w_UNREACHABLE w_PARSED w_UNAVAILABLE))])) t → Steps p.tables e below (s₁.setTop (entryFrame m #[(.int p1), (.int p2)] maxLocals)) t := by
    intro t k
    refine pre2 t ?_
    show Steps p.tables e below (s₁.setTop (mkF m 23 #[.val (.int p1), .val (.int p2), .val (.int (f0_l2_23 p1 p2 w_UNREACHABLE w_PARSED w_UNAVAILABLE)), .unset] [])) _
    refine XS.iloadN X0.here hx rfl (hb hby at_23) rfl ?_
    show Steps p.tables e below (s₁.setTop (mkF m 24 #[.val (.int p1), .val (.int p2), .val (.int (f0_l2_23 p1 p2 w_UNREACHABLE w_PARSED w_UNAVAILABLE)), .unset] [(.int (f0_l2_23 p1 p2 w_UNREACHABLE w_PARSED w_UNAVAILABLE))])) _
    refine XS.sipush X0.here hx rfl (hb hby at_24) ?_
    exact k
  by_cases hc27 : (f0_l2_23 p1 p2 w_UNREACHABLE w_PARSED w_UNAVAILABLE) < (200 : Int32)
  · have pre6 : ∀ t, Steps p.tables e below (s₁.setTop (mkF m 48 #[.val (.int p1), .val (.int p2), .val (.int (f0_l2_23 p1 p2 w_UNREACHABLE w_PARSED w_UNAVAILABLE)), .unset] [(.int (400 : Int32)), (.int (f0_l2_23 p1 p2 w_UNREACHABLE w_PARSED w_UNAVAILABLE))])) t → Steps p.tables e below (s₁.setTop (entryFrame m #[(.int p1), (.int p2)] maxLocals)) t := by
      intro t k
      refine pre5 t ?_
      show Steps p.tables e below (s₁.setTop (mkF m 27 #[.val (.int p1), .val (.int p2), .val (.int (f0_l2_23 p1 p2 w_UNREACHABLE w_PARSED w_UNAVAILABLE)), .unset] [(.int (200 : Int32)), (.int (f0_l2_23 p1 p2 w_UNREACHABLE w_PARSED w_UNAVAILABLE))])) _
      refine XS.icmpYes X0.here hx rfl (pc0 := 27) (pc' := 44) rfl (hb hby at_27) rfl (tlt hc27).1 (by decide) (by decide) ?_
      show Steps p.tables e below (s₁.setTop (mkF m 44 #[.val (.int p1), .val (.int p2), .val (.int (f0_l2_23 p1 p2 w_UNREACHABLE w_PARSED w_UNAVAILABLE)), .unset] [])) _
      refine XS.iloadN X0.here hx rfl (hb hby at_44) rfl ?_
      show Steps p.tables e below (s₁.setTop (mkF m 45 #[.val (.int p1), .val (.int p2), .val (.int (f0_l2_23 p1 p2 w_UNREACHABLE w_PARSED w_UNAVAILABLE)), .unset] [(.int (f0_l2_23 p1 p2 w_UNREACHABLE w_PARSED w_UNAVAILABLE))])) _
      refine XS.sipush X0.here hx rfl (hb hby at_45) ?_
      exact k
    by_cases hc48 : (f0_l2_23 p1 p2 w_UNREACHABLE w_PARSED w_UNAVAILABLE) < (400 : Int32)
    · obtain ⟨T16, X16, e16, st16⟩ := getS2 X0 hx hZ hown (host := "") (Or.inl (hw _ (List.mem_of_getElem? (i := 1) rfl))) Via.refl e0 S_UNREACHABLE (g := (mkF m 72 #[.val (.int p1), .val (.int p2), .val (.int (f0_l2_23 p1 p2 w_UNREACHABLE w_PARSED w_UNAVAILABLE)), .unset] [])) rfl (hb hby at_72)
      obtain ⟨_, _, ⟨T17, L17, k17, n17⟩, -, X17, ⟨Lc17, hQ17, l17, y17, z17⟩, st17⟩ := Jvm.LawKit.callS X16 hx (y := (⟨"com/example/erewash/erewash/FetchOutcome", "ofStatus", "(I)Lcom/example/erewash/erewash/FetchOutcome;"⟩ : MethodName)) hown (mvT hZ (hw _ (List.mem_of_getElem? (i := 4) rfl))) (mvT hZ (hw _ (List.mem_of_getElem? (i := 5) rfl))) (mvT hZ (hw _ (List.mem_of_getElem? (i := 2) rfl))) (mvT hZ (hw _ (List.mem_of_getElem? (i := 6) rfl))) (by decide) (backOf (W := 0) (rm1 l Z a0 hw [] (f0_l2_23 p1 p2 w_UNREACHABLE w_PARSED w_UNAVAILABLE) w_UNREACHABLE w_PARSED w_UNAVAILABLE h0 n0 Z0 S_UNREACHABLE S_PARSED S_UNAVAILABLE) hZ (hw _ (List.mem_of_getElem? (i := 6) rfl)) (hw _ (List.mem_of_getElem? (i := 2) rfl)) (by decide) (by decide)) (g := (mkF m 77 #[.val (.int p1), .val (.int p2), .val (.int (f0_l2_23 p1 p2 w_UNREACHABLE w_PARSED w_UNAVAILABLE)), .val (.ref w_UNREACHABLE)] [(.int (f0_l2_23 p1 p2 w_UNREACHABLE w_PARSED w_UNAVAILABLE))])) rfl (by rw [hml]; rfl) (argsL := [(.int (f0_l2_23 p1 p2 w_UNREACHABLE w_PARSED w_UNAVAILABLE))]) (rest := []) (lenOf pd_0 rfl) rfl (by show 2 * 0 + _ ≤ _; exact Nat.le_of_eq rfl) (hb hby at_77) (fun _ _ => ⟨rfl, e16, (by decide : 0 + 0 ≤ _), (by decide : 0 + 0 ≤ _)⟩)
      dsimp only [Pt.U, Pt.locs, Pt.cells, Pt.slots] at X17 l17 y17 z17 st17 hQ17
      subst l17 y17 z17
      obtain ⟨rfl, N17q, e17⟩ := hQ17
      have N17 := Fr.app N0 N17q
      have pre7 : ∀ t, Steps p.tables e below (T17.setTop (mkF m 81 #[.val (.int p1), .val (.int p2), .val (.int (f0_l2_23 p1 p2 w_UNREACHABLE w_PARSED w_UNAVAILABLE)), .val (.ref w_UNREACHABLE)] [(.ref w_UNREACHABLE), (.ref (f1 (f0_l2_23 p1 p2 w_UNREACHABLE w_PARSED w_UNAVAILABLE) w_UNREACHABLE w_PARSED w_UNAVAILABLE))])) t → Steps p.tables e below (s₁.setTop (entryFrame m #[(.int p1), (.int p2)] maxLocals)) t := by
        intro t k
        refine pre6 t ?_
        show Steps p.tables e below (s₁.setTop (mkF m 48 #[.val (.int p1), .val (.int p2), .val (.int (f0_l2_23 p1 p2 w_UNREACHABLE w_PARSED w_UNAVAILABLE)), .unset] [(.int (400 : Int32)), (.int (f0_l2_23 p1 p2 w_UNREACHABLE w_PARSED w_UNAVAILABLE))])) _
        refine XS.icmpYes X0.here hx rfl (pc0 := 48) (pc' := 72) rfl (hb hby at_48) rfl (tlt hc48).1 (by decide) (by decide) ?_
        show Steps p.tables e below (s₁.setTop (mkF m 72 #[.val (.int p1), .val (.int p2), .val (.int (f0_l2_23 p1 p2 w_UNREACHABLE w_PARSED w_UNAVAILABLE)), .unset] [])) _
        refine st16 _ ?_
        show Steps p.tables e below (T16.setTop (mkF m 75 #[.val (.int p1), .val (.int p2), .val (.int (f0_l2_23 p1 p2 w_UNREACHABLE w_PARSED w_UNAVAILABLE)), .unset] [(.ref w_UNREACHABLE)])) _
        refine XS.astoreN X16.here hx rfl (hb hby at_75) rfl rfl (l' := #[.val (.int p1), .val (.int p2), .val (.int (f0_l2_23 p1 p2 w_UNREACHABLE w_PARSED w_UNAVAILABLE)), .val (.ref w_UNREACHABLE)]) rfl ?_
        show Steps p.tables e below (T16.setTop (mkF m 76 #[.val (.int p1), .val (.int p2), .val (.int (f0_l2_23 p1 p2 w_UNREACHABLE w_PARSED w_UNAVAILABLE)), .val (.ref w_UNREACHABLE)] [])) _
        refine XS.iloadN X16.here hx rfl (hb hby at_76) rfl ?_
        show Steps p.tables e below (T16.setTop (mkF m 77 #[.val (.int p1), .val (.int p2), .val (.int (f0_l2_23 p1 p2 w_UNREACHABLE w_PARSED w_UNAVAILABLE)), .val (.ref w_UNREACHABLE)] [(.int (f0_l2_23 p1 p2 w_UNREACHABLE w_PARSED w_UNAVAILABLE))])) _
        refine st17 _ ?_
        show Steps p.tables e below (T17.setTop (mkF m 80 #[.val (.int p1), .val (.int p2), .val (.int (f0_l2_23 p1 p2 w_UNREACHABLE w_PARSED w_UNAVAILABLE)), .val (.ref w_UNREACHABLE)] [(.ref (f1 (f0_l2_23 p1 p2 w_UNREACHABLE w_PARSED w_UNAVAILABLE) w_UNREACHABLE w_PARSED w_UNAVAILABLE))])) _
        refine XS.aloadN X17.here hx rfl (hb hby at_80) rfl rfl ?_
        exact k
      by_cases hc81 : (f1 (f0_l2_23 p1 p2 w_UNREACHABLE w_PARSED w_UNAVAILABLE) w_UNREACHABLE w_PARSED w_UNAVAILABLE) = w_UNREACHABLE
      · have eq8 : (f0 p1 p2 w_UNREACHABLE w_PARSED w_UNAVAILABLE) = (1 : Int32) := by unfold f0; simp only [if_pos hc27, if_pos hc48, if_pos hc81]
        obtain ⟨fs, hr, hrun, hended, hW, hsame⟩ := X17.leave (v := some (.int (1 : Int32))) (fun h => by rw [Bd.returns] at h; cases h)
        refine ⟨_, _, pre7 _ ?_, hrun, hended, _, _, rfl, ?_, ⟨_, rfl⟩, hW, hsame.mono (by decide) (by decide)⟩
        · show Steps p.tables e below (T17.setTop (mkF m 81 #[.val (.int p1), .val (.int p2), .val (.int (f0_l2_23 p1 p2 w_UNREACHABLE w_PARSED w_UNAVAILABLE)), .val (.ref w_UNREACHABLE)] [(.ref w_UNREACHABLE), (.ref (f1 (f0_l2_23 p1 p2 w_UNREACHABLE w_PARSED w_UNAVAILABLE) w_UNREACHABLE w_PARSED w_UNAVAILABLE))])) _
          refine Jvm.RoadKit.acmp (g := (mkF m 81 #[.val (.int p1), .val (.int p2), .val (.int (f0_l2_23 p1 p2 w_UNREACHABLE w_PARSED w_UNAVAILABLE)), .val (.ref w_UNREACHABLE)] [(.ref w_UNREACHABLE), (.ref (f1 (f0_l2_23 p1 p2 w_UNREACHABLE w_PARSED w_UNAVAILABLE) w_UNREACHABLE w_PARSED w_UNAVAILABLE))])) X17 hx rfl rfl rfl (pc0 := 81) (pc' := 84) (same := true) rfl (hb hby at_81) rfl (decide_eq_true (congrArg Value.ref hc81)) (by decide) (by decide) ?_
          show Steps p.tables e below (T17.setTop (mkF m 84 #[.val (.int p1), .val (.int p2), .val (.int (f0_l2_23 p1 p2 w_UNREACHABLE w_PARSED w_UNAVAILABLE)), .val (.ref w_UNREACHABLE)] [])) _
          refine XS.iconst X17.here hx rfl (hb hby at_84) ?_
          show Steps p.tables e below (T17.setTop (mkF m 85 #[.val (.int p1), .val (.int p2), .val (.int (f0_l2_23 p1 p2 w_UNREACHABLE w_PARSED w_UNAVAILABLE)), .val (.ref w_UNREACHABLE)] [(.int (1 : Int32))])) _
          refine XS.goto X17.here hx rfl (pc0 := 85) (pc' := 89) rfl (hb hby at_85) (by decide) (by decide) ?_
          show Steps p.tables e below (T17.setTop (mkF m 89 #[.val (.int p1), .val (.int p2), .val (.int (f0_l2_23 p1 p2 w_UNREACHABLE w_PARSED w_UNAVAILABLE)), .val (.ref w_UNREACHABLE)] [(.int (1 : Int32))])) _
          exact retN X17 hx (t := .boolean) Bd.returns (by simp) (hb hby at_89) hr
        · show Q0 Z p1 p2 w_UNREACHABLE w_PARSED w_UNAVAILABLE h0 n0 _ T17.heap _
          rw [e17]
          exact ⟨by rw [eq8], N17, trivial⟩
      · have eq9 : (f0 p1 p2 w_UNREACHABLE w_PARSED w_UNAVAILABLE) = (0 : Int32) := by unfold f0; simp only [if_pos hc27, if_pos hc48, if_neg hc81]
        obtain ⟨fs, hr, hrun, hended, hW, hsame⟩ := X17.leave (v := some (.int (0 : Int32))) (fun h => by rw [Bd.returns] at h; cases h)
        refine ⟨_, _, pre7 _ ?_, hrun, hended, _, _, rfl, ?_, ⟨_, rfl⟩, hW, hsame.mono (by decide) (by decide)⟩
        · show Steps p.tables e below (T17.setTop (mkF m 81 #[.val (.int p1), .val (.int p2), .val (.int (f0_l2_23 p1 p2 w_UNREACHABLE w_PARSED w_UNAVAILABLE)), .val (.ref w_UNREACHABLE)] [(.ref w_UNREACHABLE), (.ref (f1 (f0_l2_23 p1 p2 w_UNREACHABLE w_PARSED w_UNAVAILABLE) w_UNREACHABLE w_PARSED w_UNAVAILABLE))])) _
          refine Jvm.RoadKit.acmp (g := (mkF m 81 #[.val (.int p1), .val (.int p2), .val (.int (f0_l2_23 p1 p2 w_UNREACHABLE w_PARSED w_UNAVAILABLE)), .val (.ref w_UNREACHABLE)] [(.ref w_UNREACHABLE), (.ref (f1 (f0_l2_23 p1 p2 w_UNREACHABLE w_PARSED w_UNAVAILABLE) w_UNREACHABLE w_PARSED w_UNAVAILABLE))])) X17 hx rfl rfl rfl (pc0 := 81) (pc' := 88) (same := false) rfl (hb hby at_81) rfl (decide_eq_false fun q => hc81 (Value.ref.inj q)) (by decide) (by decide) ?_
          show Steps p.tables e below (T17.setTop (mkF m 88 #[.val (.int p1), .val (.int p2), .val (.int (f0_l2_23 p1 p2 w_UNREACHABLE w_PARSED w_UNAVAILABLE)), .val (.ref w_UNREACHABLE)] [])) _
          refine XS.iconst X17.here hx rfl (hb hby at_88) ?_
          show Steps p.tables e below (T17.setTop (mkF m 89 #[.val (.int p1), .val (.int p2), .val (.int (f0_l2_23 p1 p2 w_UNREACHABLE w_PARSED w_UNAVAILABLE)), .val (.ref w_UNREACHABLE)] [(.int (0 : Int32))])) _
          exact retN X17 hx (t := .boolean) Bd.returns (by simp) (hb hby at_89) hr
        · show Q0 Z p1 p2 w_UNREACHABLE w_PARSED w_UNAVAILABLE h0 n0 _ T17.heap _
          rw [e17]
          exact ⟨by rw [eq9], N17, trivial⟩
    · have pre10 : ∀ t, Steps p.tables e below (s₁.setTop (mkF m 55 #[.val (.int p1), .val (.int p2), .val (.int (f0_l2_23 p1 p2 w_UNREACHABLE w_PARSED w_UNAVAILABLE)), .unset] [(.int (499 : Int32)), (.int (f0_l2_23 p1 p2 w_UNREACHABLE w_PARSED w_UNAVAILABLE))])) t → Steps p.tables e below (s₁.setTop (entryFrame m #[(.int p1), (.int p2)] maxLocals)) t := by
        intro t k
        refine pre6 t ?_
        show Steps p.tables e below (s₁.setTop (mkF m 48 #[.val (.int p1), .val (.int p2), .val (.int (f0_l2_23 p1 p2 w_UNREACHABLE w_PARSED w_UNAVAILABLE)), .unset] [(.int (400 : Int32)), (.int (f0_l2_23 p1 p2 w_UNREACHABLE w_PARSED w_UNAVAILABLE))])) _
        refine XS.icmpNo X0.here hx rfl (hb hby at_48) rfl (flt hc48).1 ?_
        show Steps p.tables e below (s₁.setTop (mkF m 51 #[.val (.int p1), .val (.int p2), .val (.int (f0_l2_23 p1 p2 w_UNREACHABLE w_PARSED w_UNAVAILABLE)), .unset] [])) _
        refine XS.iloadN X0.here hx rfl (hb hby at_51) rfl ?_
        show Steps p.tables e below (s₁.setTop (mkF m 52 #[.val (.int p1), .val (.int p2), .val (.int (f0_l2_23 p1 p2 w_UNREACHABLE w_PARSED w_UNAVAILABLE)), .unset] [(.int (f0_l2_23 p1 p2 w_UNREACHABLE w_PARSED w_UNAVAILABLE))])) _
        refine XS.sipush X0.here hx rfl (hb hby at_52) ?_
        exact k
      by_cases hc55 : (499 : Int32) < (f0_l2_23 p1 p2 w_UNREACHABLE w_PARSED w_UNAVAILABLE)
      · obtain ⟨T21, X21, e21, st21⟩ := getS2 X0 hx hZ hown (host := "") (Or.inl (hw _ (List.mem_of_getElem? (i := 1) rfl))) Via.refl e0 S_UNREACHABLE (g := (mkF m 72 #[.val (.int p1), .val (.int p2), .val (.int (f0_l2_23 p1 p2 w_UNREACHABLE w_PARSED w_UNAVAILABLE)), .unset] [])) rfl (hb hby at_72)
        obtain ⟨_, _, ⟨T22, L22, k22, n22⟩, -, X22, ⟨Lc22, hQ22, l22, y22, z22⟩, st22⟩ := Jvm.LawKit.callS X21 hx (y := (⟨"com/example/erewash/erewash/FetchOutcome", "ofStatus", "(I)Lcom/example/erewash/erewash/FetchOutcome;"⟩ : MethodName)) hown (mvT hZ (hw _ (List.mem_of_getElem? (i := 4) rfl))) (mvT hZ (hw _ (List.mem_of_getElem? (i := 5) rfl))) (mvT hZ (hw _ (List.mem_of_getElem? (i := 2) rfl))) (mvT hZ (hw _ (List.mem_of_getElem? (i := 6) rfl))) (by decide) (backOf (W := 0) (rm1 l Z a0 hw [] (f0_l2_23 p1 p2 w_UNREACHABLE w_PARSED w_UNAVAILABLE) w_UNREACHABLE w_PARSED w_UNAVAILABLE h0 n0 Z0 S_UNREACHABLE S_PARSED S_UNAVAILABLE) hZ (hw _ (List.mem_of_getElem? (i := 6) rfl)) (hw _ (List.mem_of_getElem? (i := 2) rfl)) (by decide) (by decide)) (g := (mkF m 77 #[.val (.int p1), .val (.int p2), .val (.int (f0_l2_23 p1 p2 w_UNREACHABLE w_PARSED w_UNAVAILABLE)), .val (.ref w_UNREACHABLE)] [(.int (f0_l2_23 p1 p2 w_UNREACHABLE w_PARSED w_UNAVAILABLE))])) rfl (by rw [hml]; rfl) (argsL := [(.int (f0_l2_23 p1 p2 w_UNREACHABLE w_PARSED w_UNAVAILABLE))]) (rest := []) (lenOf pd_0 rfl) rfl (by show 2 * 0 + _ ≤ _; exact Nat.le_of_eq rfl) (hb hby at_77) (fun _ _ => ⟨rfl, e21, (by decide : 0 + 0 ≤ _), (by decide : 0 + 0 ≤ _)⟩)
        dsimp only [Pt.U, Pt.locs, Pt.cells, Pt.slots] at X22 l22 y22 z22 st22 hQ22
        subst l22 y22 z22
        obtain ⟨rfl, N22q, e22⟩ := hQ22
        have N22 := Fr.app N0 N22q
        have pre11 : ∀ t, Steps p.tables e below (T22.setTop (mkF m 81 #[.val (.int p1), .val (.int p2), .val (.int (f0_l2_23 p1 p2 w_UNREACHABLE w_PARSED w_UNAVAILABLE)), .val (.ref w_UNREACHABLE)] [(.ref w_UNREACHABLE), (.ref (f1 (f0_l2_23 p1 p2 w_UNREACHABLE w_PARSED w_UNAVAILABLE) w_UNREACHABLE w_PARSED w_UNAVAILABLE))])) t → Steps p.tables e below (s₁.setTop (entryFrame m #[(.int p1), (.int p2)] maxLocals)) t := by
          intro t k
          refine pre10 t ?_
          show Steps p.tables e below (s₁.setTop (mkF m 55 #[.val (.int p1), .val (.int p2), .val (.int (f0_l2_23 p1 p2 w_UNREACHABLE w_PARSED w_UNAVAILABLE)), .unset] [(.int (499 : Int32)), (.int (f0_l2_23 p1 p2 w_UNREACHABLE w_PARSED w_UNAVAILABLE))])) _
          refine XS.icmpYes X0.here hx rfl (pc0 := 55) (pc' := 72) rfl (hb hby at_55) rfl (tlt hc55).2.2.1 (by decide) (by decide) ?_
          show Steps p.tables e below (s₁.setTop (mkF m 72 #[.val (.int p1), .val (.int p2), .val (.int (f0_l2_23 p1 p2 w_UNREACHABLE w_PARSED w_UNAVAILABLE)), .unset] [])) _
          refine st21 _ ?_
          show Steps p.tables e below (T21.setTop (mkF m 75 #[.val (.int p1), .val (.int p2), .val (.int (f0_l2_23 p1 p2 w_UNREACHABLE w_PARSED w_UNAVAILABLE)), .unset] [(.ref w_UNREACHABLE)])) _
          refine XS.astoreN X21.here hx rfl (hb hby at_75) rfl rfl (l' := #[.val (.int p1), .val (.int p2), .val (.int (f0_l2_23 p1 p2 w_UNREACHABLE w_PARSED w_UNAVAILABLE)), .val (.ref w_UNREACHABLE)]) rfl ?_
          show Steps p.tables e below (T21.setTop (mkF m 76 #[.val (.int p1), .val (.int p2), .val (.int (f0_l2_23 p1 p2 w_UNREACHABLE w_PARSED w_UNAVAILABLE)), .val (.ref w_UNREACHABLE)] [])) _
          refine XS.iloadN X21.here hx rfl (hb hby at_76) rfl ?_
          show Steps p.tables e below (T21.setTop (mkF m 77 #[.val (.int p1), .val (.int p2), .val (.int (f0_l2_23 p1 p2 w_UNREACHABLE w_PARSED w_UNAVAILABLE)), .val (.ref w_UNREACHABLE)] [(.int (f0_l2_23 p1 p2 w_UNREACHABLE w_PARSED w_UNAVAILABLE))])) _
          refine st22 _ ?_
          show Steps p.tables e below (T22.setTop (mkF m 80 #[.val (.int p1), .val (.int p2), .val (.int (f0_l2_23 p1 p2 w_UNREACHABLE w_PARSED w_UNAVAILABLE)), .val (.ref w_UNREACHABLE)] [(.ref (f1 (f0_l2_23 p1 p2 w_UNREACHABLE w_PARSED w_UNAVAILABLE) w_UNREACHABLE w_PARSED w_UNAVAILABLE))])) _
          refine XS.aloadN X22.here hx rfl (hb hby at_80) rfl rfl ?_
          exact k
        by_cases hc81 : (f1 (f0_l2_23 p1 p2 w_UNREACHABLE w_PARSED w_UNAVAILABLE) w_UNREACHABLE w_PARSED w_UNAVAILABLE) = w_UNREACHABLE
        · have eq12 : (f0 p1 p2 w_UNREACHABLE w_PARSED w_UNAVAILABLE) = (1 : Int32) := by unfold f0; simp only [if_pos hc27, if_neg hc48, if_pos hc55, if_pos hc81]
          obtain ⟨fs, hr, hrun, hended, hW, hsame⟩ := X22.leave (v := some (.int (1 : Int32))) (fun h => by rw [Bd.returns] at h; cases h)
          refine ⟨_, _, pre11 _ ?_, hrun, hended, _, _, rfl, ?_, ⟨_, rfl⟩, hW, hsame.mono (by decide) (by decide)⟩
          · show Steps p.tables e below (T22.setTop (mkF m 81 #[.val (.int p1), .val (.int p2), .val (.int (f0_l2_23 p1 p2 w_UNREACHABLE w_PARSED w_UNAVAILABLE)), .val (.ref w_UNREACHABLE)] [(.ref w_UNREACHABLE), (.ref (f1 (f0_l2_23 p1 p2 w_UNREACHABLE w_PARSED w_UNAVAILABLE) w_UNREACHABLE w_PARSED w_UNAVAILABLE))])) _
            refine Jvm.RoadKit.acmp (g := (mkF m 81 #[.val (.int p1), .val (.int p2), .val (.int (f0_l2_23 p1 p2 w_UNREACHABLE w_PARSED w_UNAVAILABLE)), .val (.ref w_UNREACHABLE)] [(.ref w_UNREACHABLE), (.ref (f1 (f0_l2_23 p1 p2 w_UNREACHABLE w_PARSED w_UNAVAILABLE) w_UNREACHABLE w_PARSED w_UNAVAILABLE))])) X22 hx rfl rfl rfl (pc0 := 81) (pc' := 84) (same := true) rfl (hb hby at_81) rfl (decide_eq_true (congrArg Value.ref hc81)) (by decide) (by decide) ?_
            show Steps p.tables e below (T22.setTop (mkF m 84 #[.val (.int p1), .val (.int p2), .val (.int (f0_l2_23 p1 p2 w_UNREACHABLE w_PARSED w_UNAVAILABLE)), .val (.ref w_UNREACHABLE)] [])) _
            refine XS.iconst X22.here hx rfl (hb hby at_84) ?_
            show Steps p.tables e below (T22.setTop (mkF m 85 #[.val (.int p1), .val (.int p2), .val (.int (f0_l2_23 p1 p2 w_UNREACHABLE w_PARSED w_UNAVAILABLE)), .val (.ref w_UNREACHABLE)] [(.int (1 : Int32))])) _
            refine XS.goto X22.here hx rfl (pc0 := 85) (pc' := 89) rfl (hb hby at_85) (by decide) (by decide) ?_
            show Steps p.tables e below (T22.setTop (mkF m 89 #[.val (.int p1), .val (.int p2), .val (.int (f0_l2_23 p1 p2 w_UNREACHABLE w_PARSED w_UNAVAILABLE)), .val (.ref w_UNREACHABLE)] [(.int (1 : Int32))])) _
            exact retN X22 hx (t := .boolean) Bd.returns (by simp) (hb hby at_89) hr
          · show Q0 Z p1 p2 w_UNREACHABLE w_PARSED w_UNAVAILABLE h0 n0 _ T22.heap _
            rw [e22]
            exact ⟨by rw [eq12], N22, trivial⟩
        · have eq13 : (f0 p1 p2 w_UNREACHABLE w_PARSED w_UNAVAILABLE) = (0 : Int32) := by unfold f0; simp only [if_pos hc27, if_neg hc48, if_pos hc55, if_neg hc81]
          obtain ⟨fs, hr, hrun, hended, hW, hsame⟩ := X22.leave (v := some (.int (0 : Int32))) (fun h => by rw [Bd.returns] at h; cases h)
          refine ⟨_, _, pre11 _ ?_, hrun, hended, _, _, rfl, ?_, ⟨_, rfl⟩, hW, hsame.mono (by decide) (by decide)⟩
          · show Steps p.tables e below (T22.setTop (mkF m 81 #[.val (.int p1), .val (.int p2), .val (.int (f0_l2_23 p1 p2 w_UNREACHABLE w_PARSED w_UNAVAILABLE)), .val (.ref w_UNREACHABLE)] [(.ref w_UNREACHABLE), (.ref (f1 (f0_l2_23 p1 p2 w_UNREACHABLE w_PARSED w_UNAVAILABLE) w_UNREACHABLE w_PARSED w_UNAVAILABLE))])) _
            refine Jvm.RoadKit.acmp (g := (mkF m 81 #[.val (.int p1), .val (.int p2), .val (.int (f0_l2_23 p1 p2 w_UNREACHABLE w_PARSED w_UNAVAILABLE)), .val (.ref w_UNREACHABLE)] [(.ref w_UNREACHABLE), (.ref (f1 (f0_l2_23 p1 p2 w_UNREACHABLE w_PARSED w_UNAVAILABLE) w_UNREACHABLE w_PARSED w_UNAVAILABLE))])) X22 hx rfl rfl rfl (pc0 := 81) (pc' := 88) (same := false) rfl (hb hby at_81) rfl (decide_eq_false fun q => hc81 (Value.ref.inj q)) (by decide) (by decide) ?_
            show Steps p.tables e below (T22.setTop (mkF m 88 #[.val (.int p1), .val (.int p2), .val (.int (f0_l2_23 p1 p2 w_UNREACHABLE w_PARSED w_UNAVAILABLE)), .val (.ref w_UNREACHABLE)] [])) _
            refine XS.iconst X22.here hx rfl (hb hby at_88) ?_
            show Steps p.tables e below (T22.setTop (mkF m 89 #[.val (.int p1), .val (.int p2), .val (.int (f0_l2_23 p1 p2 w_UNREACHABLE w_PARSED w_UNAVAILABLE)), .val (.ref w_UNREACHABLE)] [(.int (0 : Int32))])) _
            exact retN X22 hx (t := .boolean) Bd.returns (by simp) (hb hby at_89) hr
          · show Q0 Z p1 p2 w_UNREACHABLE w_PARSED w_UNAVAILABLE h0 n0 _ T22.heap _
            rw [e22]
            exact ⟨by rw [eq13], N22, trivial⟩
      · have pre14 : ∀ t, Steps p.tables e below (s₁.setTop (mkF m 62 #[.val (.int p1), .val (.int p2), .val (.int (f0_l2_23 p1 p2 w_UNREACHABLE w_PARSED w_UNAVAILABLE)), .unset] [(.int (429 : Int32)), (.int (f0_l2_23 p1 p2 w_UNREACHABLE w_PARSED w_UNAVAILABLE))])) t → Steps p.tables e below (s₁.setTop (entryFrame m #[(.int p1), (.int p2)] maxLocals)) t := by
          intro t k
          refine pre10 t ?_
          show Steps p.tables e below (s₁.setTop (mkF m 55 #[.val (.int p1), .val (.int p2), .val (.int (f0_l2_23 p1 p2 w_UNREACHABLE w_PARSED w_UNAVAILABLE)), .unset] [(.int (499 : Int32)), (.int (f0_l2_23 p1 p2 w_UNREACHABLE w_PARSED w_UNAVAILABLE))])) _
          refine XS.icmpNo X0.here hx rfl (hb hby at_55) rfl (flt hc55).2.2.1 ?_
          show Steps p.tables e below (s₁.setTop (mkF m 58 #[.val (.int p1), .val (.int p2), .val (.int (f0_l2_23 p1 p2 w_UNREACHABLE w_PARSED w_UNAVAILABLE)), .unset] [])) _
          refine XS.iloadN X0.here hx rfl (hb hby at_58) rfl ?_
          show Steps p.tables e below (s₁.setTop (mkF m 59 #[.val (.int p1), .val (.int p2), .val (.int (f0_l2_23 p1 p2 w_UNREACHABLE w_PARSED w_UNAVAILABLE)), .unset] [(.int (f0_l2_23 p1 p2 w_UNREACHABLE w_PARSED w_UNAVAILABLE))])) _
          refine XS.sipush X0.here hx rfl (hb hby at_59) ?_
          exact k
        by_cases hc62 : (f0_l2_23 p1 p2 w_UNREACHABLE w_PARSED w_UNAVAILABLE) = (429 : Int32)
        · obtain ⟨T25, X25, e25, st25⟩ := getS2 X0 hx hZ hown (host := "") (Or.inl (hw _ (List.mem_of_getElem? (i := 1) rfl))) Via.refl e0 S_UNREACHABLE (g := (mkF m 72 #[.val (.int p1), .val (.int p2), .val (.int (f0_l2_23 p1 p2 w_UNREACHABLE w_PARSED w_UNAVAILABLE)), .unset] [])) rfl (hb hby at_72)
          obtain ⟨_, _, ⟨T26, L26, k26, n26⟩, -, X26, ⟨Lc26, hQ26, l26, y26, z26⟩, st26⟩ := Jvm.LawKit.callS X25 hx (y := (⟨"com/example/erewash/erewash/FetchOutcome", "ofStatus", "(I)Lcom/example/erewash/erewash/FetchOutcome;"⟩ : MethodName)) hown (mvT hZ (hw _ (List.mem_of_getElem? (i := 4) rfl))) (mvT hZ (hw _ (List.mem_of_getElem? (i := 5) rfl))) (mvT hZ (hw _ (List.mem_of_getElem? (i := 2) rfl))) (mvT hZ (hw _ (List.mem_of_getElem? (i := 6) rfl))) (by decide) (backOf (W := 0) (rm1 l Z a0 hw [] (f0_l2_23 p1 p2 w_UNREACHABLE w_PARSED w_UNAVAILABLE) w_UNREACHABLE w_PARSED w_UNAVAILABLE h0 n0 Z0 S_UNREACHABLE S_PARSED S_UNAVAILABLE) hZ (hw _ (List.mem_of_getElem? (i := 6) rfl)) (hw _ (List.mem_of_getElem? (i := 2) rfl)) (by decide) (by decide)) (g := (mkF m 77 #[.val (.int p1), .val (.int p2), .val (.int (f0_l2_23 p1 p2 w_UNREACHABLE w_PARSED w_UNAVAILABLE)), .val (.ref w_UNREACHABLE)] [(.int (f0_l2_23 p1 p2 w_UNREACHABLE w_PARSED w_UNAVAILABLE))])) rfl (by rw [hml]; rfl) (argsL := [(.int (f0_l2_23 p1 p2 w_UNREACHABLE w_PARSED w_UNAVAILABLE))]) (rest := []) (lenOf pd_0 rfl) rfl (by show 2 * 0 + _ ≤ _; exact Nat.le_of_eq rfl) (hb hby at_77) (fun _ _ => ⟨rfl, e25, (by decide : 0 + 0 ≤ _), (by decide : 0 + 0 ≤ _)⟩)
          dsimp only [Pt.U, Pt.locs, Pt.cells, Pt.slots] at X26 l26 y26 z26 st26 hQ26
          subst l26 y26 z26
          obtain ⟨rfl, N26q, e26⟩ := hQ26
          have N26 := Fr.app N0 N26q
          have pre15 : ∀ t, Steps p.tables e below (T26.setTop (mkF m 81 #[.val (.int p1), .val (.int p2), .val (.int (f0_l2_23 p1 p2 w_UNREACHABLE w_PARSED w_UNAVAILABLE)), .val (.ref w_UNREACHABLE)] [(.ref w_UNREACHABLE), (.ref (f1 (f0_l2_23 p1 p2 w_UNREACHABLE w_PARSED w_UNAVAILABLE) w_UNREACHABLE w_PARSED w_UNAVAILABLE))])) t → Steps p.tables e below (s₁.setTop (entryFrame m #[(.int p1), (.int p2)] maxLocals)) t := by
            intro t k
            refine pre14 t ?_
            show Steps p.tables e below (s₁.setTop (mkF m 62 #[.val (.int p1), .val (.int p2), .val (.int (f0_l2_23 p1 p2 w_UNREACHABLE w_PARSED w_UNAVAILABLE)), .unset] [(.int (429 : Int32)), (.int (f0_l2_23 p1 p2 w_UNREACHABLE w_PARSED w_UNAVAILABLE))])) _
            refine XS.icmpYes X0.here hx rfl (pc0 := 62) (pc' := 72) rfl (hb hby at_62) rfl (teq hc62).1 (by decide) (by decide) ?_
            show Steps p.tables e below (s₁.setTop (mkF m 72 #[.val (.int p1), .val (.int p2), .val (.int (f0_l2_23 p1 p2 w_UNREACHABLE w_PARSED w_UNAVAILABLE)), .unset] [])) _
            refine st25 _ ?_
            show Steps p.tables e below (T25.setTop (mkF m 75 #[.val (.int p1), .val (.int p2), .val (.int (f0_l2_23 p1 p2 w_UNREACHABLE w_PARSED w_UNAVAILABLE)), .unset] [(.ref w_UNREACHABLE)])) _
            refine XS.astoreN X25.here hx rfl (hb hby at_75) rfl rfl (l' := #[.val (.int p1), .val (.int p2), .val (.int (f0_l2_23 p1 p2 w_UNREACHABLE w_PARSED w_UNAVAILABLE)), .val (.ref w_UNREACHABLE)]) rfl ?_
            show Steps p.tables e below (T25.setTop (mkF m 76 #[.val (.int p1), .val (.int p2), .val (.int (f0_l2_23 p1 p2 w_UNREACHABLE w_PARSED w_UNAVAILABLE)), .val (.ref w_UNREACHABLE)] [])) _
            refine XS.iloadN X25.here hx rfl (hb hby at_76) rfl ?_
            show Steps p.tables e below (T25.setTop (mkF m 77 #[.val (.int p1), .val (.int p2), .val (.int (f0_l2_23 p1 p2 w_UNREACHABLE w_PARSED w_UNAVAILABLE)), .val (.ref w_UNREACHABLE)] [(.int (f0_l2_23 p1 p2 w_UNREACHABLE w_PARSED w_UNAVAILABLE))])) _
            refine st26 _ ?_
            show Steps p.tables e below (T26.setTop (mkF m 80 #[.val (.int p1), .val (.int p2), .val (.int (f0_l2_23 p1 p2 w_UNREACHABLE w_PARSED w_UNAVAILABLE)), .val (.ref w_UNREACHABLE)] [(.ref (f1 (f0_l2_23 p1 p2 w_UNREACHABLE w_PARSED w_UNAVAILABLE) w_UNREACHABLE w_PARSED w_UNAVAILABLE))])) _
            refine XS.aloadN X26.here hx rfl (hb hby at_80) rfl rfl ?_
            exact k
          by_cases hc81 : (f1 (f0_l2_23 p1 p2 w_UNREACHABLE w_PARSED w_UNAVAILABLE) w_UNREACHABLE w_PARSED w_UNAVAILABLE) = w_UNREACHABLE
          · have eq16 : (f0 p1 p2 w_UNREACHABLE w_PARSED w_UNAVAILABLE) = (1 : Int32) := by unfold f0; simp only [if_pos hc27, if_neg hc48, if_neg hc55, if_pos hc62, if_pos hc81]
            obtain ⟨fs, hr, hrun, hended, hW, hsame⟩ := X26.leave (v := some (.int (1 : Int32))) (fun h => by rw [Bd.returns] at h; cases h)
            refine ⟨_, _, pre15 _ ?_, hrun, hended, _, _, rfl, ?_, ⟨_, rfl⟩, hW, hsame.mono (by decide) (by decide)⟩
            · show Steps p.tables e below (T26.setTop (mkF m 81 #[.val (.int p1), .val (.int p2), .val (.int (f0_l2_23 p1 p2 w_UNREACHABLE w_PARSED w_UNAVAILABLE)), .val (.ref w_UNREACHABLE)] [(.ref w_UNREACHABLE), (.ref (f1 (f0_l2_23 p1 p2 w_UNREACHABLE w_PARSED w_UNAVAILABLE) w_UNREACHABLE w_PARSED w_UNAVAILABLE))])) _
              refine Jvm.RoadKit.acmp (g := (mkF m 81 #[.val (.int p1), .val (.int p2), .val (.int (f0_l2_23 p1 p2 w_UNREACHABLE w_PARSED w_UNAVAILABLE)), .val (.ref w_UNREACHABLE)] [(.ref w_UNREACHABLE), (.ref (f1 (f0_l2_23 p1 p2 w_UNREACHABLE w_PARSED w_UNAVAILABLE) w_UNREACHABLE w_PARSED w_UNAVAILABLE))])) X26 hx rfl rfl rfl (pc0 := 81) (pc' := 84) (same := true) rfl (hb hby at_81) rfl (decide_eq_true (congrArg Value.ref hc81)) (by decide) (by decide) ?_
              show Steps p.tables e below (T26.setTop (mkF m 84 #[.val (.int p1), .val (.int p2), .val (.int (f0_l2_23 p1 p2 w_UNREACHABLE w_PARSED w_UNAVAILABLE)), .val (.ref w_UNREACHABLE)] [])) _
              refine XS.iconst X26.here hx rfl (hb hby at_84) ?_
              show Steps p.tables e below (T26.setTop (mkF m 85 #[.val (.int p1), .val (.int p2), .val (.int (f0_l2_23 p1 p2 w_UNREACHABLE w_PARSED w_UNAVAILABLE)), .val (.ref w_UNREACHABLE)] [(.int (1 : Int32))])) _
              refine XS.goto X26.here hx rfl (pc0 := 85) (pc' := 89) rfl (hb hby at_85) (by decide) (by decide) ?_
              show Steps p.tables e below (T26.setTop (mkF m 89 #[.val (.int p1), .val (.int p2), .val (.int (f0_l2_23 p1 p2 w_UNREACHABLE w_PARSED w_UNAVAILABLE)), .val (.ref w_UNREACHABLE)] [(.int (1 : Int32))])) _
              exact retN X26 hx (t := .boolean) Bd.returns (by simp) (hb hby at_89) hr
            · show Q0 Z p1 p2 w_UNREACHABLE w_PARSED w_UNAVAILABLE h0 n0 _ T26.heap _
              rw [e26]
              exact ⟨by rw [eq16], N26, trivial⟩
          · have eq17 : (f0 p1 p2 w_UNREACHABLE w_PARSED w_UNAVAILABLE) = (0 : Int32) := by unfold f0; simp only [if_pos hc27, if_neg hc48, if_neg hc55, if_pos hc62, if_neg hc81]
            obtain ⟨fs, hr, hrun, hended, hW, hsame⟩ := X26.leave (v := some (.int (0 : Int32))) (fun h => by rw [Bd.returns] at h; cases h)
            refine ⟨_, _, pre15 _ ?_, hrun, hended, _, _, rfl, ?_, ⟨_, rfl⟩, hW, hsame.mono (by decide) (by decide)⟩
            · show Steps p.tables e below (T26.setTop (mkF m 81 #[.val (.int p1), .val (.int p2), .val (.int (f0_l2_23 p1 p2 w_UNREACHABLE w_PARSED w_UNAVAILABLE)), .val (.ref w_UNREACHABLE)] [(.ref w_UNREACHABLE), (.ref (f1 (f0_l2_23 p1 p2 w_UNREACHABLE w_PARSED w_UNAVAILABLE) w_UNREACHABLE w_PARSED w_UNAVAILABLE))])) _
              refine Jvm.RoadKit.acmp (g := (mkF m 81 #[.val (.int p1), .val (.int p2), .val (.int (f0_l2_23 p1 p2 w_UNREACHABLE w_PARSED w_UNAVAILABLE)), .val (.ref w_UNREACHABLE)] [(.ref w_UNREACHABLE), (.ref (f1 (f0_l2_23 p1 p2 w_UNREACHABLE w_PARSED w_UNAVAILABLE) w_UNREACHABLE w_PARSED w_UNAVAILABLE))])) X26 hx rfl rfl rfl (pc0 := 81) (pc' := 88) (same := false) rfl (hb hby at_81) rfl (decide_eq_false fun q => hc81 (Value.ref.inj q)) (by decide) (by decide) ?_
              show Steps p.tables e below (T26.setTop (mkF m 88 #[.val (.int p1), .val (.int p2), .val (.int (f0_l2_23 p1 p2 w_UNREACHABLE w_PARSED w_UNAVAILABLE)), .val (.ref w_UNREACHABLE)] [])) _
              refine XS.iconst X26.here hx rfl (hb hby at_88) ?_
              show Steps p.tables e below (T26.setTop (mkF m 89 #[.val (.int p1), .val (.int p2), .val (.int (f0_l2_23 p1 p2 w_UNREACHABLE w_PARSED w_UNAVAILABLE)), .val (.ref w_UNREACHABLE)] [(.int (0 : Int32))])) _
              exact retN X26 hx (t := .boolean) Bd.returns (by simp) (hb hby at_89) hr
            · show Q0 Z p1 p2 w_UNREACHABLE w_PARSED w_UNAVAILABLE h0 n0 _ T26.heap _
              rw [e26]
              exact ⟨by rw [eq17], N26, trivial⟩
        · obtain ⟨T27, X27, e27, st27⟩ := getS2 X0 hx hZ hown (host := "") (Or.inl (hw _ (List.mem_of_getElem? (i := 11) rfl))) Via.refl e0 S_UNAVAILABLE (g := (mkF m 65 #[.val (.int p1), .val (.int p2), .val (.int (f0_l2_23 p1 p2 w_UNREACHABLE w_PARSED w_UNAVAILABLE)), .unset] [])) rfl (hb hby at_65)
          obtain ⟨_, _, ⟨T28, L28, k28, n28⟩, -, X28, ⟨Lc28, hQ28, l28, y28, z28⟩, st28⟩ := Jvm.LawKit.callS X27 hx (y := (⟨"com/example/erewash/erewash/FetchOutcome", "ofStatus", "(I)Lcom/example/erewash/erewash/FetchOutcome;"⟩ : MethodName)) hown (mvT hZ (hw _ (List.mem_of_getElem? (i := 4) rfl))) (mvT hZ (hw _ (List.mem_of_getElem? (i := 5) rfl))) (mvT hZ (hw _ (List.mem_of_getElem? (i := 2) rfl))) (mvT hZ (hw _ (List.mem_of_getElem? (i := 6) rfl))) (by decide) (backOf (W := 0) (rm1 l Z a0 hw [] (f0_l2_23 p1 p2 w_UNREACHABLE w_PARSED w_UNAVAILABLE) w_UNREACHABLE w_PARSED w_UNAVAILABLE h0 n0 Z0 S_UNREACHABLE S_PARSED S_UNAVAILABLE) hZ (hw _ (List.mem_of_getElem? (i := 6) rfl)) (hw _ (List.mem_of_getElem? (i := 2) rfl)) (by decide) (by decide)) (g := (mkF m 77 #[.val (.int p1), .val (.int p2), .val (.int (f0_l2_23 p1 p2 w_UNREACHABLE w_PARSED w_UNAVAILABLE)), .val (.ref w_UNAVAILABLE)] [(.int (f0_l2_23 p1 p2 w_UNREACHABLE w_PARSED w_UNAVAILABLE))])) rfl (by rw [hml]; rfl) (argsL := [(.int (f0_l2_23 p1 p2 w_UNREACHABLE w_PARSED w_UNAVAILABLE))]) (rest := []) (lenOf pd_0 rfl) rfl (by show 2 * 0 + _ ≤ _; exact Nat.le_of_eq rfl) (hb hby at_77) (fun _ _ => ⟨rfl, e27, (by decide : 0 + 0 ≤ _), (by decide : 0 + 0 ≤ _)⟩)
          dsimp only [Pt.U, Pt.locs, Pt.cells, Pt.slots] at X28 l28 y28 z28 st28 hQ28
          subst l28 y28 z28
          obtain ⟨rfl, N28q, e28⟩ := hQ28
          have N28 := Fr.app N0 N28q
          have pre18 : ∀ t, Steps p.tables e below (T28.setTop (mkF m 81 #[.val (.int p1), .val (.int p2), .val (.int (f0_l2_23 p1 p2 w_UNREACHABLE w_PARSED w_UNAVAILABLE)), .val (.ref w_UNAVAILABLE)] [(.ref w_UNAVAILABLE), (.ref (f1 (f0_l2_23 p1 p2 w_UNREACHABLE w_PARSED w_UNAVAILABLE) w_UNREACHABLE w_PARSED w_UNAVAILABLE))])) t → Steps p.tables e below (s₁.setTop (entryFrame m #[(.int p1), (.int p2)] maxLocals)) t := by
            intro t k
            refine pre14 t ?_
            show Steps p.tables e below (s₁.setTop (mkF m 62 #[.val (.int p1), .val (.int p2), .val (.int (f0_l2_23 p1 p2 w_UNREACHABLE w_PARSED w_UNAVAILABLE)), .unset] [(.int (429 : Int32)), (.int (f0_l2_23 p1 p2 w_UNREACHABLE w_PARSED w_UNAVAILABLE))])) _
            refine XS.icmpNo X0.here hx rfl (hb hby at_62) rfl (feq hc62).1 ?_
            show Steps p.tables e below (s₁.setTop (mkF m 65 #[.val (.int p1), .val (.int p2), .val (.int (f0_l2_23 p1 p2 w_UNREACHABLE w_PARSED w_UNAVAILABLE)), .unset] [])) _
            refine st27 _ ?_
            show Steps p.tables e below (T27.setTop (mkF m 68 #[.val (.int p1), .val (.int p2), .val (.int (f0_l2_23 p1 p2 w_UNREACHABLE w_PARSED w_UNAVAILABLE)), .unset] [(.ref w_UNAVAILABLE)])) _
            refine XS.astoreN X27.here hx rfl (hb hby at_68) rfl rfl (l' := #[.val (.int p1), .val (.int p2), .val (.int (f0_l2_23 p1 p2 w_UNREACHABLE w_PARSED w_UNAVAILABLE)), .val (.ref w_UNAVAILABLE)]) rfl ?_
            show Steps p.tables e below (T27.setTop (mkF m 69 #[.val (.int p1), .val (.int p2), .val (.int (f0_l2_23 p1 p2 w_UNREACHABLE w_PARSED w_UNAVAILABLE)), .val (.ref w_UNAVAILABLE)] [])) _
            refine XS.goto X27.here hx rfl (pc0 := 69) (pc' := 76) rfl (hb hby at_69) (by decide) (by decide) ?_
            show Steps p.tables e below (T27.setTop (mkF m 76 #[.val (.int p1), .val (.int p2), .val (.int (f0_l2_23 p1 p2 w_UNREACHABLE w_PARSED w_UNAVAILABLE)), .val (.ref w_UNAVAILABLE)] [])) _
            refine XS.iloadN X27.here hx rfl (hb hby at_76) rfl ?_
            show Steps p.tables e below (T27.setTop (mkF m 77 #[.val (.int p1), .val (.int p2), .val (.int (f0_l2_23 p1 p2 w_UNREACHABLE w_PARSED w_UNAVAILABLE)), .val (.ref w_UNAVAILABLE)] [(.int (f0_l2_23 p1 p2 w_UNREACHABLE w_PARSED w_UNAVAILABLE))])) _
            refine st28 _ ?_
            show Steps p.tables e below (T28.setTop (mkF m 80 #[.val (.int p1), .val (.int p2), .val (.int (f0_l2_23 p1 p2 w_UNREACHABLE w_PARSED w_UNAVAILABLE)), .val (.ref w_UNAVAILABLE)] [(.ref (f1 (f0_l2_23 p1 p2 w_UNREACHABLE w_PARSED w_UNAVAILABLE) w_UNREACHABLE w_PARSED w_UNAVAILABLE))])) _
            refine XS.aloadN X28.here hx rfl (hb hby at_80) rfl rfl ?_
            exact k
          by_cases hc81 : (f1 (f0_l2_23 p1 p2 w_UNREACHABLE w_PARSED w_UNAVAILABLE) w_UNREACHABLE w_PARSED w_UNAVAILABLE) = w_UNAVAILABLE
          · have eq19 : (f0 p1 p2 w_UNREACHABLE w_PARSED w_UNAVAILABLE) = (1 : Int32) := by unfold f0; simp only [if_pos hc27, if_neg hc48, if_neg hc55, if_neg hc62, if_pos hc81]
            obtain ⟨fs, hr, hrun, hended, hW, hsame⟩ := X28.leave (v := some (.int (1 : Int32))) (fun h => by rw [Bd.returns] at h; cases h)
            refine ⟨_, _, pre18 _ ?_, hrun, hended, _, _, rfl, ?_, ⟨_, rfl⟩, hW, hsame.mono (by decide) (by decide)⟩
            · show Steps p.tables e below (T28.setTop (mkF m 81 #[.val (.int p1), .val (.int p2), .val (.int (f0_l2_23 p1 p2 w_UNREACHABLE w_PARSED w_UNAVAILABLE)), .val (.ref w_UNAVAILABLE)] [(.ref w_UNAVAILABLE), (.ref (f1 (f0_l2_23 p1 p2 w_UNREACHABLE w_PARSED w_UNAVAILABLE) w_UNREACHABLE w_PARSED w_UNAVAILABLE))])) _
              refine Jvm.RoadKit.acmp (g := (mkF m 81 #[.val (.int p1), .val (.int p2), .val (.int (f0_l2_23 p1 p2 w_UNREACHABLE w_PARSED w_UNAVAILABLE)), .val (.ref w_UNAVAILABLE)] [(.ref w_UNAVAILABLE), (.ref (f1 (f0_l2_23 p1 p2 w_UNREACHABLE w_PARSED w_UNAVAILABLE) w_UNREACHABLE w_PARSED w_UNAVAILABLE))])) X28 hx rfl rfl rfl (pc0 := 81) (pc' := 84) (same := true) rfl (hb hby at_81) rfl (decide_eq_true (congrArg Value.ref hc81)) (by decide) (by decide) ?_
              show Steps p.tables e below (T28.setTop (mkF m 84 #[.val (.int p1), .val (.int p2), .val (.int (f0_l2_23 p1 p2 w_UNREACHABLE w_PARSED w_UNAVAILABLE)), .val (.ref w_UNAVAILABLE)] [])) _
              refine XS.iconst X28.here hx rfl (hb hby at_84) ?_
              show Steps p.tables e below (T28.setTop (mkF m 85 #[.val (.int p1), .val (.int p2), .val (.int (f0_l2_23 p1 p2 w_UNREACHABLE w_PARSED w_UNAVAILABLE)), .val (.ref w_UNAVAILABLE)] [(.int (1 : Int32))])) _
              refine XS.goto X28.here hx rfl (pc0 := 85) (pc' := 89) rfl (hb hby at_85) (by decide) (by decide) ?_
              show Steps p.tables e below (T28.setTop (mkF m 89 #[.val (.int p1), .val (.int p2), .val (.int (f0_l2_23 p1 p2 w_UNREACHABLE w_PARSED w_UNAVAILABLE)), .val (.ref w_UNAVAILABLE)] [(.int (1 : Int32))])) _
              exact retN X28 hx (t := .boolean) Bd.returns (by simp) (hb hby at_89) hr
            · show Q0 Z p1 p2 w_UNREACHABLE w_PARSED w_UNAVAILABLE h0 n0 _ T28.heap _
              rw [e28]
              exact ⟨by rw [eq19], N28, trivial⟩
          · have eq20 : (f0 p1 p2 w_UNREACHABLE w_PARSED w_UNAVAILABLE) = (0 : Int32) := by unfold f0; simp only [if_pos hc27, if_neg hc48, if_neg hc55, if_neg hc62, if_neg hc81]
            obtain ⟨fs, hr, hrun, hended, hW, hsame⟩ := X28.leave (v := some (.int (0 : Int32))) (fun h => by rw [Bd.returns] at h; cases h)
            refine ⟨_, _, pre18 _ ?_, hrun, hended, _, _, rfl, ?_, ⟨_, rfl⟩, hW, hsame.mono (by decide) (by decide)⟩
            · show Steps p.tables e below (T28.setTop (mkF m 81 #[.val (.int p1), .val (.int p2), .val (.int (f0_l2_23 p1 p2 w_UNREACHABLE w_PARSED w_UNAVAILABLE)), .val (.ref w_UNAVAILABLE)] [(.ref w_UNAVAILABLE), (.ref (f1 (f0_l2_23 p1 p2 w_UNREACHABLE w_PARSED w_UNAVAILABLE) w_UNREACHABLE w_PARSED w_UNAVAILABLE))])) _
              refine Jvm.RoadKit.acmp (g := (mkF m 81 #[.val (.int p1), .val (.int p2), .val (.int (f0_l2_23 p1 p2 w_UNREACHABLE w_PARSED w_UNAVAILABLE)), .val (.ref w_UNAVAILABLE)] [(.ref w_UNAVAILABLE), (.ref (f1 (f0_l2_23 p1 p2 w_UNREACHABLE w_PARSED w_UNAVAILABLE) w_UNREACHABLE w_PARSED w_UNAVAILABLE))])) X28 hx rfl rfl rfl (pc0 := 81) (pc' := 88) (same := false) rfl (hb hby at_81) rfl (decide_eq_false fun q => hc81 (Value.ref.inj q)) (by decide) (by decide) ?_
              show Steps p.tables e below (T28.setTop (mkF m 88 #[.val (.int p1), .val (.int p2), .val (.int (f0_l2_23 p1 p2 w_UNREACHABLE w_PARSED w_UNAVAILABLE)), .val (.ref w_UNAVAILABLE)] [])) _
              refine XS.iconst X28.here hx rfl (hb hby at_88) ?_
              show Steps p.tables e below (T28.setTop (mkF m 89 #[.val (.int p1), .val (.int p2), .val (.int (f0_l2_23 p1 p2 w_UNREACHABLE w_PARSED w_UNAVAILABLE)), .val (.ref w_UNAVAILABLE)] [(.int (0 : Int32))])) _
              exact retN X28 hx (t := .boolean) Bd.returns (by simp) (hb hby at_89) hr
            · show Q0 Z p1 p2 w_UNREACHABLE w_PARSED w_UNAVAILABLE h0 n0 _ T28.heap _
              rw [e28]
              exact ⟨by rw [eq20], N28, trivial⟩
  · have pre21 : ∀ t, Steps p.tables e below (s₁.setTop (mkF m 34 #[.val (.int p1), .val (.int p2), .val (.int (f0_l2_23 p1 p2 w_UNREACHABLE w_PARSED w_UNAVAILABLE)), .unset] [(.int (299 : Int32)), (.int (f0_l2_23 p1 p2 w_UNREACHABLE w_PARSED w_UNAVAILABLE))])) t → Steps p.tables e below (s₁.setTop (entryFrame m #[(.int p1), (.int p2)] maxLocals)) t := by
      intro t k
      refine pre5 t ?_
      show Steps p.tables e below (s₁.setTop (mkF m 27 #[.val (.int p1), .val (.int p2), .val (.int (f0_l2_23 p1 p2 w_UNREACHABLE w_PARSED w_UNAVAILABLE)), .unset] [(.int (200 : Int32)), (.int (f0_l2_23 p1 p2 w_UNREACHABLE w_PARSED w_UNAVAILABLE))])) _
      refine XS.icmpNo X0.here hx rfl (hb hby at_27) rfl (flt hc27).1 ?_
      show Steps p.tables e below (s₁.setTop (mkF m 30 #[.val (.int p1), .val (.int p2), .val (.int (f0_l2_23 p1 p2 w_UNREACHABLE w_PARSED w_UNAVAILABLE)), .unset] [])) _
      refine XS.iloadN X0.here hx rfl (hb hby at_30) rfl ?_
      show Steps p.tables e below (s₁.setTop (mkF m 31 #[.val (.int p1), .val (.int p2), .val (.int (f0_l2_23 p1 p2 w_UNREACHABLE w_PARSED w_UNAVAILABLE)), .unset] [(.int (f0_l2_23 p1 p2 w_UNREACHABLE w_PARSED w_UNAVAILABLE))])) _
      refine XS.sipush X0.here hx rfl (hb hby at_31) ?_
      exact k
    by_cases hc34 : (299 : Int32) < (f0_l2_23 p1 p2 w_UNREACHABLE w_PARSED w_UNAVAILABLE)
    · have pre22 : ∀ t, Steps p.tables e below (s₁.setTop (mkF m 48 #[.val (.int p1), .val (.int p2), .val (.int (f0_l2_23 p1 p2 w_UNREACHABLE w_PARSED w_UNAVAILABLE)), .unset] [(.int (400 : Int32)), (.int (f0_l2_23 p1 p2 w_UNREACHABLE w_PARSED w_UNAVAILABLE))])) t → Steps p.tables e below (s₁.setTop (entryFrame m #[(.int p1), (.int p2)] maxLocals)) t := by
        intro t k
        refine pre21 t ?_
        show Steps p.tables e below (s₁.setTop (mkF m 34 #[.val (.int p1), .val (.int p2), .val (.int (f0_l2_23 p1 p2 w_UNREACHABLE w_PARSED w_UNAVAILABLE)), .unset] [(.int (299 : Int32)), (.int (f0_l2_23 p1 p2 w_UNREACHABLE w_PARSED w_UNAVAILABLE))])) _
        refine XS.icmpYes X0.here hx rfl (pc0 := 34) (pc' := 44) rfl (hb hby at_34) rfl (tlt hc34).2.2.1 (by decide) (by decide) ?_
        show Steps p.tables e below (s₁.setTop (mkF m 44 #[.val (.int p1), .val (.int p2), .val (.int (f0_l2_23 p1 p2 w_UNREACHABLE w_PARSED w_UNAVAILABLE)), .unset] [])) _
        refine XS.iloadN X0.here hx rfl (hb hby at_44) rfl ?_
        show Steps p.tables e below (s₁.setTop (mkF m 45 #[.val (.int p1), .val (.int p2), .val (.int (f0_l2_23 p1 p2 w_UNREACHABLE w_PARSED w_UNAVAILABLE)), .unset] [(.int (f0_l2_23 p1 p2 w_UNREACHABLE w_PARSED w_UNAVAILABLE))])) _
        refine XS.sipush X0.here hx rfl (hb hby at_45) ?_
        exact k
      by_cases hc48 : (f0_l2_23 p1 p2 w_UNREACHABLE w_PARSED w_UNAVAILABLE) < (400 : Int32)
      · obtain ⟨T38, X38, e38, st38⟩ := getS2 X0 hx hZ hown (host := "") (Or.inl (hw _ (List.mem_of_getElem? (i := 1) rfl))) Via.refl e0 S_UNREACHABLE (g := (mkF m 72 #[.val (.int p1), .val (.int p2), .val (.int (f0_l2_23 p1 p2 w_UNREACHABLE w_PARSED w_UNAVAILABLE)), .unset] [])) rfl (hb hby at_72)
        obtain ⟨_, _, ⟨T39, L39, k39, n39⟩, -, X39, ⟨Lc39, hQ39, l39, y39, z39⟩, st39⟩ := Jvm.LawKit.callS X38 hx (y := (⟨"com/example/erewash/erewash/FetchOutcome", "ofStatus", "(I)Lcom/example/erewash/erewash/FetchOutcome;"⟩ : MethodName)) hown (mvT hZ (hw _ (List.mem_of_getElem? (i := 4) rfl))) (mvT hZ (hw _ (List.mem_of_getElem? (i := 5) rfl))) (mvT hZ (hw _ (List.mem_of_getElem? (i := 2) rfl))) (mvT hZ (hw _ (List.mem_of_getElem? (i := 6) rfl))) (by decide) (backOf (W := 0) (rm1 l Z a0 hw [] (f0_l2_23 p1 p2 w_UNREACHABLE w_PARSED w_UNAVAILABLE) w_UNREACHABLE w_PARSED w_UNAVAILABLE h0 n0 Z0 S_UNREACHABLE S_PARSED S_UNAVAILABLE) hZ (hw _ (List.mem_of_getElem? (i := 6) rfl)) (hw _ (List.mem_of_getElem? (i := 2) rfl)) (by decide) (by decide)) (g := (mkF m 77 #[.val (.int p1), .val (.int p2), .val (.int (f0_l2_23 p1 p2 w_UNREACHABLE w_PARSED w_UNAVAILABLE)), .val (.ref w_UNREACHABLE)] [(.int (f0_l2_23 p1 p2 w_UNREACHABLE w_PARSED w_UNAVAILABLE))])) rfl (by rw [hml]; rfl) (argsL := [(.int (f0_l2_23 p1 p2 w_UNREACHABLE w_PARSED w_UNAVAILABLE))]) (rest := []) (lenOf pd_0 rfl) rfl (by show 2 * 0 + _ ≤ _; exact Nat.le_of_eq rfl) (hb hby at_77) (fun _ _ => ⟨rfl, e38, (by decide : 0 + 0 ≤ _), (by decide : 0 + 0 ≤ _)⟩)
        dsimp only [Pt.U, Pt.locs, Pt.cells, Pt.slots] at X39 l39 y39 z39 st39 hQ39
        subst l39 y39 z39
        obtain ⟨rfl, N39q, e39⟩ := hQ39
        have N39 := Fr.app N0 N39q
        have pre23 : ∀ t, Steps p.tables e below (T39.setTop (mkF m 81 #[.val (.int p1), .val (.int p2), .val (.int (f0_l2_23 p1 p2 w_UNREACHABLE w_PARSED w_UNAVAILABLE)), .val (.ref w_UNREACHABLE)] [(.ref w_UNREACHABLE), (.ref (f1 (f0_l2_23 p1 p2 w_UNREACHABLE w_PARSED w_UNAVAILABLE) w_UNREACHABLE w_PARSED w_UNAVAILABLE))])) t → Steps p.tables e below (s₁.setTop (entryFrame m #[(.int p1), (.int p2)] maxLocals)) t := by
          intro t k
          refine pre22 t ?_
          show Steps p.tables e below (s₁.setTop (mkF m 48 #[.val (.int p1), .val (.int p2), .val (.int (f0_l2_23 p1 p2 w_UNREACHABLE w_PARSED w_UNAVAILABLE)), .unset] [(.int (400 : Int32)), (.int (f0_l2_23 p1 p2 w_UNREACHABLE w_PARSED w_UNAVAILABLE))])) _
          refine XS.icmpYes X0.here hx rfl (pc0 := 48) (pc' := 72) rfl (hb hby at_48) rfl (tlt hc48).1 (by decide) (by decide) ?_
          show Steps p.tables e below (s₁.setTop (mkF m 72 #[.val (.int p1), .val (.int p2), .val (.int (f0_l2_23 p1 p2 w_UNREACHABLE w_PARSED w_UNAVAILABLE)), .unset] [])) _
          refine st38 _ ?_
          show Steps p.tables e below (T38.setTop (mkF m 75 #[.val (.int p1), .val (.int p2), .val (.int (f0_l2_23 p1 p2 w_UNREACHABLE w_PARSED w_UNAVAILABLE)), .unset] [(.ref w_UNREACHABLE)])) _
          refine XS.astoreN X38.here hx rfl (hb hby at_75) rfl rfl (l' := #[.val (.int p1), .val (.int p2), .val (.int (f0_l2_23 p1 p2 w_UNREACHABLE w_PARSED w_UNAVAILABLE)), .val (.ref w_UNREACHABLE)]) rfl ?_
          show Steps p.tables e below (T38.setTop (mkF m 76 #[.val (.int p1), .val (.int p2), .val (.int (f0_l2_23 p1 p2 w_UNREACHABLE w_PARSED w_UNAVAILABLE)), .val (.ref w_UNREACHABLE)] [])) _
          refine XS.iloadN X38.here hx rfl (hb hby at_76) rfl ?_
          show Steps p.tables e below (T38.setTop (mkF m 77 #[.val (.int p1), .val (.int p2), .val (.int (f0_l2_23 p1 p2 w_UNREACHABLE w_PARSED w_UNAVAILABLE)), .val (.ref w_UNREACHABLE)] [(.int (f0_l2_23 p1 p2 w_UNREACHABLE w_PARSED w_UNAVAILABLE))])) _
          refine st39 _ ?_
          show Steps p.tables e below (T39.setTop (mkF m 80 #[.val (.int p1), .val (.int p2), .val (.int (f0_l2_23 p1 p2 w_UNREACHABLE w_PARSED w_UNAVAILABLE)), .val (.ref w_UNREACHABLE)] [(.ref (f1 (f0_l2_23 p1 p2 w_UNREACHABLE w_PARSED w_UNAVAILABLE) w_UNREACHABLE w_PARSED w_UNAVAILABLE))])) _
          refine XS.aloadN X39.here hx rfl (hb hby at_80) rfl rfl ?_
          exact k
        by_cases hc81 : (f1 (f0_l2_23 p1 p2 w_UNREACHABLE w_PARSED w_UNAVAILABLE) w_UNREACHABLE w_PARSED w_UNAVAILABLE) = w_UNREACHABLE
        · have eq24 : (f0 p1 p2 w_UNREACHABLE w_PARSED w_UNAVAILABLE) = (1 : Int32) := by unfold f0; simp only [if_neg hc27, if_pos hc34, if_pos hc48, if_pos hc81]
          obtain ⟨fs, hr, hrun, hended, hW, hsame⟩ := X39.leave (v := some (.int (1 : Int32))) (fun h => by rw [Bd.returns] at h; cases h)
          refine ⟨_, _, pre23 _ ?_, hrun, hended, _, _, rfl, ?_, ⟨_, rfl⟩, hW, hsame.mono (by decide) (by decide)⟩
          · show Steps p.tables e below (T39.setTop (mkF m 81 #[.val (.int p1), .val (.int p2), .val (.int (f0_l2_23 p1 p2 w_UNREACHABLE w_PARSED w_UNAVAILABLE)), .val (.ref w_UNREACHABLE)] [(.ref w_UNREACHABLE), (.ref (f1 (f0_l2_23 p1 p2 w_UNREACHABLE w_PARSED w_UNAVAILABLE) w_UNREACHABLE w_PARSED w_UNAVAILABLE))])) _
            refine Jvm.RoadKit.acmp (g := (mkF m 81 #[.val (.int p1), .val (.int p2), .val (.int (f0_l2_23 p1 p2 w_UNREACHABLE w_PARSED w_UNAVAILABLE)), .val (.ref w_UNREACHABLE)] [(.ref w_UNREACHABLE), (.ref (f1 (f0_l2_23 p1 p2 w_UNREACHABLE w_PARSED w_UNAVAILABLE) w_UNREACHABLE w_PARSED w_UNAVAILABLE))])) X39 hx rfl rfl rfl (pc0 := 81) (pc' := 84) (same := true) rfl (hb hby at_81) rfl (decide_eq_true (congrArg Value.ref hc81)) (by decide) (by decide) ?_
            show Steps p.tables e below (T39.setTop (mkF m 84 #[.val (.int p1), .val (.int p2), .val (.int (f0_l2_23 p1 p2 w_UNREACHABLE w_PARSED w_UNAVAILABLE)), .val (.ref w_UNREACHABLE)] [])) _
            refine XS.iconst X39.here hx rfl (hb hby at_84) ?_
            show Steps p.tables e below (T39.setTop (mkF m 85 #[.val (.int p1), .val (.int p2), .val (.int (f0_l2_23 p1 p2 w_UNREACHABLE w_PARSED w_UNAVAILABLE)), .val (.ref w_UNREACHABLE)] [(.int (1 : Int32))])) _
            refine XS.goto X39.here hx rfl (pc0 := 85) (pc' := 89) rfl (hb hby at_85) (by decide) (by decide) ?_
            show Steps p.tables e below (T39.setTop (mkF m 89 #[.val (.int p1), .val (.int p2), .val (.int (f0_l2_23 p1 p2 w_UNREACHABLE w_PARSED w_UNAVAILABLE)), .val (.ref w_UNREACHABLE)] [(.int (1 : Int32))])) _
            exact retN X39 hx (t := .boolean) Bd.returns (by simp) (hb hby at_89) hr
          · show Q0 Z p1 p2 w_UNREACHABLE w_PARSED w_UNAVAILABLE h0 n0 _ T39.heap _
            rw [e39]
            exact ⟨by rw [eq24], N39, trivial⟩
        · have eq25 : (f0 p1 p2 w_UNREACHABLE w_PARSED w_UNAVAILABLE) = (0 : Int32) := by unfold f0; simp only [if_neg hc27, if_pos hc34, if_pos hc48, if_neg hc81]
          obtain ⟨fs, hr, hrun, hended, hW, hsame⟩ := X39.leave (v := some (.int (0 : Int32))) (fun h => by rw [Bd.returns] at h; cases h)
          refine ⟨_, _, pre23 _ ?_, hrun, hended, _, _, rfl, ?_, ⟨_, rfl⟩, hW, hsame.mono (by decide) (by decide)⟩
          · show Steps p.tables e below (T39.setTop (mkF m 81 #[.val (.int p1), .val (.int p2), .val (.int (f0_l2_23 p1 p2 w_UNREACHABLE w_PARSED w_UNAVAILABLE)), .val (.ref w_UNREACHABLE)] [(.ref w_UNREACHABLE), (.ref (f1 (f0_l2_23 p1 p2 w_UNREACHABLE w_PARSED w_UNAVAILABLE) w_UNREACHABLE w_PARSED w_UNAVAILABLE))])) _
            refine Jvm.RoadKit.acmp (g := (mkF m 81 #[.val (.int p1), .val (.int p2), .val (.int (f0_l2_23 p1 p2 w_UNREACHABLE w_PARSED w_UNAVAILABLE)), .val (.ref w_UNREACHABLE)] [(.ref w_UNREACHABLE), (.ref (f1 (f0_l2_23 p1 p2 w_UNREACHABLE w_PARSED w_UNAVAILABLE) w_UNREACHABLE w_PARSED w_UNAVAILABLE))])) X39 hx rfl rfl rfl (pc0 := 81) (pc' := 88) (same := false) rfl (hb hby at_81) rfl (decide_eq_false fun q => hc81 (Value.ref.inj q)) (by decide) (by decide) ?_
            show Steps p.tables e below (T39.setTop (mkF m 88 #[.val (.int p1), .val (.int p2), .val (.int (f0_l2_23 p1 p2 w_UNREACHABLE w_PARSED w_UNAVAILABLE)), .val (.ref w_UNREACHABLE)] [])) _
            refine XS.iconst X39.here hx rfl (hb hby at_88) ?_
            show Steps p.tables e below (T39.setTop (mkF m 89 #[.val (.int p1), .val (.int p2), .val (.int (f0_l2_23 p1 p2 w_UNREACHABLE w_PARSED w_UNAVAILABLE)), .val (.ref w_UNREACHABLE)] [(.int (0 : Int32))])) _
            exact retN X39 hx (t := .boolean) Bd.returns (by simp) (hb hby at_89) hr
          · show Q0 Z p1 p2 w_UNREACHABLE w_PARSED w_UNAVAILABLE h0 n0 _ T39.heap _
            rw [e39]
            exact ⟨by rw [eq25], N39, trivial⟩
      · have pre26 : ∀ t, Steps p.tables e below (s₁.setTop (mkF m 55 #[.val (.int p1), .val (.int p2), .val (.int (f0_l2_23 p1 p2 w_UNREACHABLE w_PARSED w_UNAVAILABLE)), .unset] [(.int (499 : Int32)), (.int (f0_l2_23 p1 p2 w_UNREACHABLE w_PARSED w_UNAVAILABLE))])) t → Steps p.tables e below (s₁.setTop (entryFrame m #[(.int p1), (.int p2)] maxLocals)) t := by
          intro t k
          refine pre22 t ?_
          show Steps p.tables e below (s₁.setTop (mkF m 48 #[.val (.int p1), .val (.int p2), .val (.int (f0_l2_23 p1 p2 w_UNREACHABLE w_PARSED w_UNAVAILABLE)), .unset] [(.int (400 : Int32)), (.int (f0_l2_23 p1 p2 w_UNREACHABLE w_PARSED w_UNAVAILABLE))])) _
          refine XS.icmpNo X0.here hx rfl (hb hby at_48) rfl (flt hc48).1 ?_
          show Steps p.tables e below (s₁.setTop (mkF m 51 #[.val (.int p1), .val (.int p2), .val (.int (f0_l2_23 p1 p2 w_UNREACHABLE w_PARSED w_UNAVAILABLE)), .unset] [])) _
          refine XS.iloadN X0.here hx rfl (hb hby at_51) rfl ?_
          show Steps p.tables e below (s₁.setTop (mkF m 52 #[.val (.int p1), .val (.int p2), .val (.int (f0_l2_23 p1 p2 w_UNREACHABLE w_PARSED w_UNAVAILABLE)), .unset] [(.int (f0_l2_23 p1 p2 w_UNREACHABLE w_PARSED w_UNAVAILABLE))])) _
          refine XS.sipush X0.here hx rfl (hb hby at_52) ?_
          exact k
        by_cases hc55 : (499 : Int32) < (f0_l2_23 p1 p2 w_UNREACHABLE w_PARSED w_UNAVAILABLE)
        · obtain ⟨T43, X43, e43, st43⟩ := getS2 X0 hx hZ hown (host := "") (Or.inl (hw _ (List.mem_of_getElem? (i := 1) rfl))) Via.refl e0 S_UNREACHABLE (g := (mkF m 72 #[.val (.int p1), .val (.int p2), .val (.int (f0_l2_23 p1 p2 w_UNREACHABLE w_PARSED w_UNAVAILABLE)), .unset] [])) rfl (hb hby at_72)
          obtain ⟨_, _, ⟨T44, L44, k44, n44⟩, -, X44, ⟨Lc44, hQ44, l44, y44, z44⟩, st44⟩ := Jvm.LawKit.callS X43 hx (y := (⟨"com/example/erewash/erewash/FetchOutcome", "ofStatus", "(I)Lcom/example/erewash/erewash/FetchOutcome;"⟩ : MethodName)) hown (mvT hZ (hw _ (List.mem_of_getElem? (i := 4) rfl))) (mvT hZ (hw _ (List.mem_of_getElem? (i := 5) rfl))) (mvT hZ (hw _ (List.mem_of_getElem? (i := 2) rfl))) (mvT hZ (hw _ (List.mem_of_getElem? (i := 6) rfl))) (by decide) (backOf (W := 0) (rm1 l Z a0 hw [] (f0_l2_23 p1 p2 w_UNREACHABLE w_PARSED w_UNAVAILABLE) w_UNREACHABLE w_PARSED w_UNAVAILABLE h0 n0 Z0 S_UNREACHABLE S_PARSED S_UNAVAILABLE) hZ (hw _ (List.mem_of_getElem? (i := 6) rfl)) (hw _ (List.mem_of_getElem? (i := 2) rfl)) (by decide) (by decide)) (g := (mkF m 77 #[.val (.int p1), .val (.int p2), .val (.int (f0_l2_23 p1 p2 w_UNREACHABLE w_PARSED w_UNAVAILABLE)), .val (.ref w_UNREACHABLE)] [(.int (f0_l2_23 p1 p2 w_UNREACHABLE w_PARSED w_UNAVAILABLE))])) rfl (by rw [hml]; rfl) (argsL := [(.int (f0_l2_23 p1 p2 w_UNREACHABLE w_PARSED w_UNAVAILABLE))]) (rest := []) (lenOf pd_0 rfl) rfl (by show 2 * 0 + _ ≤ _; exact Nat.le_of_eq rfl) (hb hby at_77) (fun _ _ => ⟨rfl, e43, (by decide : 0 + 0 ≤ _), (by decide : 0 + 0 ≤ _)⟩)
          dsimp only [Pt.U, Pt.locs, Pt.cells, Pt.slots] at X44 l44 y44 z44 st44 hQ44
          subst l44 y44 z44
          obtain ⟨rfl, N44q, e44⟩ := hQ44
          have N44 := Fr.app N0 N44q
          have pre27 : ∀ t, Steps p.tables e below (T44.setTop (mkF m 81 #[.val (.int p1), .val (.int p2), .val (.int (f0_l2_23 p1 p2 w_UNREACHABLE w_PARSED w_UNAVAILABLE)), .val (.ref w_UNREACHABLE)] [(.ref w_UNREACHABLE), (.ref (f1 (f0_l2_23 p1 p2 w_UNREACHABLE w_PARSED w_UNAVAILABLE) w_UNREACHABLE w_PARSED w_UNAVAILABLE))])) t → Steps p.tables e below (s₁.setTop (entryFrame m #[(.int p1), (.int p2)] maxLocals)) t := by
            intro t k
            refine pre26 t ?_
            show Steps p.tables e below (s₁.setTop (mkF m 55 #[.val (.int p1), .val (.int p2), .val (.int (f0_l2_23 p1 p2 w_UNREACHABLE w_PARSED w_UNAVAILABLE)), .unset] [(.int (499 : Int32)), (.int (f0_l2_23 p1 p2 w_UNREACHABLE w_PARSED w_UNAVAILABLE))])) _
            refine XS.icmpYes X0.here hx rfl (pc0 := 55) (pc' := 72) rfl (hb hby at_55) rfl (tlt hc55).2.2.1 (by decide) (by decide) ?_
            show Steps p.tables e below (s₁.setTop (mkF m 72 #[.val (.int p1), .val (.int p2), .val (.int (f0_l2_23 p1 p2 w_UNREACHABLE w_PARSED w_UNAVAILABLE)), .unset] [])) _
            refine st43 _ ?_
            show Steps p.tables e below (T43.setTop (mkF m 75 #[.val (.int p1), .val (.int p2), .val (.int (f0_l2_23 p1 p2 w_UNREACHABLE w_PARSED w_UNAVAILABLE)), .unset] [(.ref w_UNREACHABLE)])) _
            refine XS.astoreN X43.here hx rfl (hb hby at_75) rfl rfl (l' := #[.val (.int p1), .val (.int p2), .val (.int (f0_l2_23 p1 p2 w_UNREACHABLE w_PARSED w_UNAVAILABLE)), .val (.ref w_UNREACHABLE)]) rfl ?_
            show Steps p.tables e below (T43.setTop (mkF m 76 #[.val (.int p1), .val (.int p2), .val (.int (f0_l2_23 p1 p2 w_UNREACHABLE w_PARSED w_UNAVAILABLE)), .val (.ref w_UNREACHABLE)] [])) _
            refine XS.iloadN X43.here hx rfl (hb hby at_76) rfl ?_
            show Steps p.tables e below (T43.setTop (mkF m 77 #[.val (.int p1), .val (.int p2), .val (.int (f0_l2_23 p1 p2 w_UNREACHABLE w_PARSED w_UNAVAILABLE)), .val (.ref w_UNREACHABLE)] [(.int (f0_l2_23 p1 p2 w_UNREACHABLE w_PARSED w_UNAVAILABLE))])) _
            refine st44 _ ?_
            show Steps p.tables e below (T44.setTop (mkF m 80 #[.val (.int p1), .val (.int p2), .val (.int (f0_l2_23 p1 p2 w_UNREACHABLE w_PARSED w_UNAVAILABLE)), .val (.ref w_UNREACHABLE)] [(.ref (f1 (f0_l2_23 p1 p2 w_UNREACHABLE w_PARSED w_UNAVAILABLE) w_UNREACHABLE w_PARSED w_UNAVAILABLE))])) _
            refine XS.aloadN X44.here hx rfl (hb hby at_80) rfl rfl ?_
            exact k
          by_cases hc81 : (f1 (f0_l2_23 p1 p2 w_UNREACHABLE w_PARSED w_UNAVAILABLE) w_UNREACHABLE w_PARSED w_UNAVAILABLE) = w_UNREACHABLE
          · have eq28 : (f0 p1 p2 w_UNREACHABLE w_PARSED w_UNAVAILABLE) = (1 : Int32) := by unfold f0; simp only [if_neg hc27, if_pos hc34, if_neg hc48, if_pos hc55, if_pos hc81]
            obtain ⟨fs, hr, hrun, hended, hW, hsame⟩ := X44.leave (v := some (.int (1 : Int32))) (fun h => by rw [Bd.returns] at h; cases h)
            refine ⟨_, _, pre27 _ ?_, hrun, hended, _, _, rfl, ?_, ⟨_, rfl⟩, hW, hsame.mono (by decide) (by decide)⟩
            · show Steps p.tables e below (T44.setTop (mkF m 81 #[.val (.int p1), .val (.int p2), .val (.int (f0_l2_23 p1 p2 w_UNREACHABLE w_PARSED w_UNAVAILABLE)), .val (.ref w_UNREACHABLE)] [(.ref w_UNREACHABLE), (.ref (f1 (f0_l2_23 p1 p2 w_UNREACHABLE w_PARSED w_UNAVAILABLE) w_UNREACHABLE w_PARSED w_UNAVAILABLE))])) _
              refine Jvm.RoadKit.acmp (g := (mkF m 81 #[.val (.int p1), .val (.int p2), .val (.int (f0_l2_23 p1 p2 w_UNREACHABLE w_PARSED w_UNAVAILABLE)), .val (.ref w_UNREACHABLE)] [(.ref w_UNREACHABLE), (.ref (f1 (f0_l2_23 p1 p2 w_UNREACHABLE w_PARSED w_UNAVAILABLE) w_UNREACHABLE w_PARSED w_UNAVAILABLE))])) X44 hx rfl rfl rfl (pc0 := 81) (pc' := 84) (same := true) rfl (hb hby at_81) rfl (decide_eq_true (congrArg Value.ref hc81)) (by decide) (by decide) ?_
              show Steps p.tables e below (T44.setTop (mkF m 84 #[.val (.int p1), .val (.int p2), .val (.int (f0_l2_23 p1 p2 w_UNREACHABLE w_PARSED w_UNAVAILABLE)), .val (.ref w_UNREACHABLE)] [])) _
              refine XS.iconst X44.here hx rfl (hb hby at_84) ?_
              show Steps p.tables e below (T44.setTop (mkF m 85 #[.val (.int p1), .val (.int p2), .val (.int (f0_l2_23 p1 p2 w_UNREACHABLE w_PARSED w_UNAVAILABLE)), .val (.ref w_UNREACHABLE)] [(.int (1 : Int32))])) _
              refine XS.goto X44.here hx rfl (pc0 := 85) (pc' := 89) rfl (hb hby at_85) (by decide) (by decide) ?_
              show Steps p.tables e below (T44.setTop (mkF m 89 #[.val (.int p1), .val (.int p2), .val (.int (f0_l2_23 p1 p2 w_UNREACHABLE w_PARSED w_UNAVAILABLE)), .val (.ref w_UNREACHABLE)] [(.int (1 : Int32))])) _
              exact retN X44 hx (t := .boolean) Bd.returns (by simp) (hb hby at_89) hr
            · show Q0 Z p1 p2 w_UNREACHABLE w_PARSED w_UNAVAILABLE h0 n0 _ T44.heap _
              rw [e44]
              exact ⟨by rw [eq28], N44, trivial⟩
          · have eq29 : (f0 p1 p2 w_UNREACHABLE w_PARSED w_UNAVAILABLE) = (0 : Int32) := by unfold f0; simp only [if_neg hc27, if_pos hc34, if_neg hc48, if_pos hc55, if_neg hc81]
            obtain ⟨fs, hr, hrun, hended, hW, hsame⟩ := X44.leave (v := some (.int (0 : Int32))) (fun h => by rw [Bd.returns] at h; cases h)
            refine ⟨_, _, pre27 _ ?_, hrun, hended, _, _, rfl, ?_, ⟨_, rfl⟩, hW, hsame.mono (by decide) (by decide)⟩
            · show Steps p.tables e below (T44.setTop (mkF m 81 #[.val (.int p1), .val (.int p2), .val (.int (f0_l2_23 p1 p2 w_UNREACHABLE w_PARSED w_UNAVAILABLE)), .val (.ref w_UNREACHABLE)] [(.ref w_UNREACHABLE), (.ref (f1 (f0_l2_23 p1 p2 w_UNREACHABLE w_PARSED w_UNAVAILABLE) w_UNREACHABLE w_PARSED w_UNAVAILABLE))])) _
              refine Jvm.RoadKit.acmp (g := (mkF m 81 #[.val (.int p1), .val (.int p2), .val (.int (f0_l2_23 p1 p2 w_UNREACHABLE w_PARSED w_UNAVAILABLE)), .val (.ref w_UNREACHABLE)] [(.ref w_UNREACHABLE), (.ref (f1 (f0_l2_23 p1 p2 w_UNREACHABLE w_PARSED w_UNAVAILABLE) w_UNREACHABLE w_PARSED w_UNAVAILABLE))])) X44 hx rfl rfl rfl (pc0 := 81) (pc' := 88) (same := false) rfl (hb hby at_81) rfl (decide_eq_false fun q => hc81 (Value.ref.inj q)) (by decide) (by decide) ?_
              show Steps p.tables e below (T44.setTop (mkF m 88 #[.val (.int p1), .val (.int p2), .val (.int (f0_l2_23 p1 p2 w_UNREACHABLE w_PARSED w_UNAVAILABLE)), .val (.ref w_UNREACHABLE)] [])) _
              refine XS.iconst X44.here hx rfl (hb hby at_88) ?_
              show Steps p.tables e below (T44.setTop (mkF m 89 #[.val (.int p1), .val (.int p2), .val (.int (f0_l2_23 p1 p2 w_UNREACHABLE w_PARSED w_UNAVAILABLE)), .val (.ref w_UNREACHABLE)] [(.int (0 : Int32))])) _
              exact retN X44 hx (t := .boolean) Bd.returns (by simp) (hb hby at_89) hr
            · show Q0 Z p1 p2 w_UNREACHABLE w_PARSED w_UNAVAILABLE h0 n0 _ T44.heap _
              rw [e44]
              exact ⟨by rw [eq29], N44, trivial⟩
        · have pre30 : ∀ t, Steps p.tables e below (s₁.setTop (mkF m 62 #[.val (.int p1), .val (.int p2), .val (.int (f0_l2_23 p1 p2 w_UNREACHABLE w_PARSED w_UNAVAILABLE)), .unset] [(.int (429 : Int32)), (.int (f0_l2_23 p1 p2 w_UNREACHABLE w_PARSED w_UNAVAILABLE))])) t → Steps p.tables e below (s₁.setTop (entryFrame m #[(.int p1), (.int p2)] maxLocals)) t := by
            intro t k
            refine pre26 t ?_
            show Steps p.tables e below (s₁.setTop (mkF m 55 #[.val (.int p1), .val (.int p2), .val (.int (f0_l2_23 p1 p2 w_UNREACHABLE w_PARSED w_UNAVAILABLE)), .unset] [(.int (499 : Int32)), (.int (f0_l2_23 p1 p2 w_UNREACHABLE w_PARSED w_UNAVAILABLE))])) _
            refine XS.icmpNo X0.here hx rfl (hb hby at_55) rfl (flt hc55).2.2.1 ?_
            show Steps p.tables e below (s₁.setTop (mkF m 58 #[.val (.int p1), .val (.int p2), .val (.int (f0_l2_23 p1 p2 w_UNREACHABLE w_PARSED w_UNAVAILABLE)), .unset] [])) _
            refine XS.iloadN X0.here hx rfl (hb hby at_58) rfl ?_
            show Steps p.tables e below (s₁.setTop (mkF m 59 #[.val (.int p1), .val (.int p2), .val (.int (f0_l2_23 p1 p2 w_UNREACHABLE w_PARSED w_UNAVAILABLE)), .unset] [(.int (f0_l2_23 p1 p2 w_UNREACHABLE w_PARSED w_UNAVAILABLE))])) _
            refine XS.sipush X0.here hx rfl (hb hby at_59) ?_
            exact k
          by_cases hc62 : (f0_l2_23 p1 p2 w_UNREACHABLE w_PARSED w_UNAVAILABLE) = (429 : Int32)
          · obtain ⟨T47, X47, e47, st47⟩ := getS2 X0 hx hZ hown (host := "") (Or.inl (hw _ (List.mem_of_getElem? (i := 1) rfl))) Via.refl e0 S_UNREACHABLE (g := (mkF m 72 #[.val (.int p1), .val (.int p2), .val (.int (f0_l2_23 p1 p2 w_UNREACHABLE w_PARSED w_UNAVAILABLE)), .unset] [])) rfl (hb hby at_72)
            obtain ⟨_, _, ⟨T48, L48, k48, n48⟩, -, X48, ⟨Lc48, hQ48, l48, y48, z48⟩, st48⟩ := Jvm.LawKit.callS X47 hx (y := (⟨"com/example/erewash/erewash/FetchOutcome", "ofStatus", "(I)Lcom/example/erewash/erewash/FetchOutcome;"⟩ : MethodName)) hown (mvT hZ (hw _ (List.mem_of_getElem? (i := 4) rfl))) (mvT hZ (hw _ (List.mem_of_getElem? (i := 5) rfl))) (mvT hZ (hw _ (List.mem_of_getElem? (i := 2) rfl))) (mvT hZ (hw _ (List.mem_of_getElem? (i := 6) rfl))) (by decide) (backOf (W := 0) (rm1 l Z a0 hw [] (f0_l2_23 p1 p2 w_UNREACHABLE w_PARSED w_UNAVAILABLE) w_UNREACHABLE w_PARSED w_UNAVAILABLE h0 n0 Z0 S_UNREACHABLE S_PARSED S_UNAVAILABLE) hZ (hw _ (List.mem_of_getElem? (i := 6) rfl)) (hw _ (List.mem_of_getElem? (i := 2) rfl)) (by decide) (by decide)) (g := (mkF m 77 #[.val (.int p1), .val (.int p2), .val (.int (f0_l2_23 p1 p2 w_UNREACHABLE w_PARSED w_UNAVAILABLE)), .val (.ref w_UNREACHABLE)] [(.int (f0_l2_23 p1 p2 w_UNREACHABLE w_PARSED w_UNAVAILABLE))])) rfl (by rw [hml]; rfl) (argsL := [(.int (f0_l2_23 p1 p2 w_UNREACHABLE w_PARSED w_UNAVAILABLE))]) (rest := []) (lenOf pd_0 rfl) rfl (by show 2 * 0 + _ ≤ _; exact Nat.le_of_eq rfl) (hb hby at_77) (fun _ _ => ⟨rfl, e47, (by decide : 0 + 0 ≤ _), (by decide : 0 + 0 ≤ _)⟩)
            dsimp only [Pt.U, Pt.locs, Pt.cells, Pt.slots] at X48 l48 y48 z48 st48 hQ48
            subst l48 y48 z48
            obtain ⟨rfl, N48q, e48⟩ := hQ48
            have N48 := Fr.app N0 N48q
            have pre31 : ∀ t, Steps p.tables e below (T48.setTop (mkF m 81 #[.val (.int p1), .val (.int p2), .val (.int (f0_l2_23 p1 p2 w_UNREACHABLE w_PARSED w_UNAVAILABLE)), .val (.ref w_UNREACHABLE)] [(.ref w_UNREACHABLE), (.ref (f1 (f0_l2_23 p1 p2 w_UNREACHABLE w_PARSED w_UNAVAILABLE) w_UNREACHABLE w_PARSED w_UNAVAILABLE))])) t → Steps p.tables e below (s₁.setTop (entryFrame m #[(.int p1), (.int p2)] maxLocals)) t := by
              intro t k
              refine pre30 t ?_
              show Steps p.tables e below (s₁.setTop (mkF m 62 #[.val (.int p1), .val (.int p2), .val (.int (f0_l2_23 p1 p2 w_UNREACHABLE w_PARSED w_UNAVAILABLE)), .unset] [(.int (429 : Int32)), (.int (f0_l2_23 p1 p2 w_UNREACHABLE w_PARSED w_UNAVAILABLE))])) _
              refine XS.icmpYes X0.here hx rfl (pc0 := 62) (pc' := 72) rfl (hb hby at_62) rfl (teq hc62).1 (by decide) (by decide) ?_
              show Steps p.tables e below (s₁.setTop (mkF m 72 #[.val (.int p1), .val (.int p2), .val (.int (f0_l2_23 p1 p2 w_UNREACHABLE w_PARSED w_UNAVAILABLE)), .unset] [])) _
              refine st47 _ ?_
              show Steps p.tables e below (T47.setTop (mkF m 75 #[.val (.int p1), .val (.int p2), .val (.int (f0_l2_23 p1 p2 w_UNREACHABLE w_PARSED w_UNAVAILABLE)), .unset] [(.ref w_UNREACHABLE)])) _
              refine XS.astoreN X47.here hx rfl (hb hby at_75) rfl rfl (l' := #[.val (.int p1), .val (.int p2), .val (.int (f0_l2_23 p1 p2 w_UNREACHABLE w_PARSED w_UNAVAILABLE)), .val (.ref w_UNREACHABLE)]) rfl ?_
              show Steps p.tables e below (T47.setTop (mkF m 76 #[.val (.int p1), .val (.int p2), .val (.int (f0_l2_23 p1 p2 w_UNREACHABLE w_PARSED w_UNAVAILABLE)), .val (.ref w_UNREACHABLE)] [])) _
              refine XS.iloadN X47.here hx rfl (hb hby at_76) rfl ?_
              show Steps p.tables e below (T47.setTop (mkF m 77 #[.val (.int p1), .val (.int p2), .val (.int (f0_l2_23 p1 p2 w_UNREACHABLE w_PARSED w_UNAVAILABLE)), .val (.ref w_UNREACHABLE)] [(.int (f0_l2_23 p1 p2 w_UNREACHABLE w_PARSED w_UNAVAILABLE))])) _
              refine st48 _ ?_
              show Steps p.tables e below (T48.setTop (mkF m 80 #[.val (.int p1), .val (.int p2), .val (.int (f0_l2_23 p1 p2 w_UNREACHABLE w_PARSED w_UNAVAILABLE)), .val (.ref w_UNREACHABLE)] [(.ref (f1 (f0_l2_23 p1 p2 w_UNREACHABLE w_PARSED w_UNAVAILABLE) w_UNREACHABLE w_PARSED w_UNAVAILABLE))])) _
              refine XS.aloadN X48.here hx rfl (hb hby at_80) rfl rfl ?_
              exact k
            by_cases hc81 : (f1 (f0_l2_23 p1 p2 w_UNREACHABLE w_PARSED w_UNAVAILABLE) w_UNREACHABLE w_PARSED w_UNAVAILABLE) = w_UNREACHABLE
            · have eq32 : (f0 p1 p2 w_UNREACHABLE w_PARSED w_UNAVAILABLE) = (1 : Int32) := by unfold f0; simp only [if_neg hc27, if_pos hc34, if_neg hc48, if_neg hc55, if_pos hc62, if_pos hc81]
              obtain ⟨fs, hr, hrun, hended, hW, hsame⟩ := X48.leave (v := some (.int (1 : Int32))) (fun h => by rw [Bd.returns] at h; cases h)
              refine ⟨_, _, pre31 _ ?_, hrun, hended, _, _, rfl, ?_, ⟨_, rfl⟩, hW, hsame.mono (by decide) (by decide)⟩
              · show Steps p.tables e below (T48.setTop (mkF m 81 #[.val (.int p1), .val (.int p2), .val (.int (f0_l2_23 p1 p2 w_UNREACHABLE w_PARSED w_UNAVAILABLE)), .val (.ref w_UNREACHABLE)] [(.ref w_UNREACHABLE), (.ref (f1 (f0_l2_23 p1 p2 w_UNREACHABLE w_PARSED w_UNAVAILABLE) w_UNREACHABLE w_PARSED w_UNAVAILABLE))])) _
                refine Jvm.RoadKit.acmp (g := (mkF m 81 #[.val (.int p1), .val (.int p2), .val (.int (f0_l2_23 p1 p2 w_UNREACHABLE w_PARSED w_UNAVAILABLE)), .val (.ref w_UNREACHABLE)] [(.ref w_UNREACHABLE), (.ref (f1 (f0_l2_23 p1 p2 w_UNREACHABLE w_PARSED w_UNAVAILABLE) w_UNREACHABLE w_PARSED w_UNAVAILABLE))])) X48 hx rfl rfl rfl (pc0 := 81) (pc' := 84) (same := true) rfl (hb hby at_81) rfl (decide_eq_true (congrArg Value.ref hc81)) (by decide) (by decide) ?_
                show Steps p.tables e below (T48.setTop (mkF m 84 #[.val (.int p1), .val (.int p2), .val (.int (f0_l2_23 p1 p2 w_UNREACHABLE w_PARSED w_UNAVAILABLE)), .val (.ref w_UNREACHABLE)] [])) _
                refine XS.iconst X48.here hx rfl (hb hby at_84) ?_
                show Steps p.tables e below (T48.setTop (mkF m 85 #[.val (.int p1), .val (.int p2), .val (.int (f0_l2_23 p1 p2 w_UNREACHABLE w_PARSED w_UNAVAILABLE)), .val (.ref w_UNREACHABLE)] [(.int (1 : Int32))])) _
                refine XS.goto X48.here hx rfl (pc0 := 85) (pc' := 89) rfl (hb hby at_85) (by decide) (by decide) ?_
                show Steps p.tables e below (T48.setTop (mkF m 89 #[.val (.int p1), .val (.int p2), .val (.int (f0_l2_23 p1 p2 w_UNREACHABLE w_PARSED w_UNAVAILABLE)), .val (.ref w_UNREACHABLE)] [(.int (1 : Int32))])) _
                exact retN X48 hx (t := .boolean) Bd.returns (by simp) (hb hby at_89) hr
              · show Q0 Z p1 p2 w_UNREACHABLE w_PARSED w_UNAVAILABLE h0 n0 _ T48.heap _
                rw [e48]
                exact ⟨by rw [eq32], N48, trivial⟩
            · have eq33 : (f0 p1 p2 w_UNREACHABLE w_PARSED w_UNAVAILABLE) = (0 : Int32) := by unfold f0; simp only [if_neg hc27, if_pos hc34, if_neg hc48, if_neg hc55, if_pos hc62, if_neg hc81]
              obtain ⟨fs, hr, hrun, hended, hW, hsame⟩ := X48.leave (v := some (.int (0 : Int32))) (fun h => by rw [Bd.returns] at h; cases h)
              refine ⟨_, _, pre31 _ ?_, hrun, hended, _, _, rfl, ?_, ⟨_, rfl⟩, hW, hsame.mono (by decide) (by decide)⟩
              · show Steps p.tables e below (T48.setTop (mkF m 81 #[.val (.int p1), .val (.int p2), .val (.int (f0_l2_23 p1 p2 w_UNREACHABLE w_PARSED w_UNAVAILABLE)), .val (.ref w_UNREACHABLE)] [(.ref w_UNREACHABLE), (.ref (f1 (f0_l2_23 p1 p2 w_UNREACHABLE w_PARSED w_UNAVAILABLE) w_UNREACHABLE w_PARSED w_UNAVAILABLE))])) _
                refine Jvm.RoadKit.acmp (g := (mkF m 81 #[.val (.int p1), .val (.int p2), .val (.int (f0_l2_23 p1 p2 w_UNREACHABLE w_PARSED w_UNAVAILABLE)), .val (.ref w_UNREACHABLE)] [(.ref w_UNREACHABLE), (.ref (f1 (f0_l2_23 p1 p2 w_UNREACHABLE w_PARSED w_UNAVAILABLE) w_UNREACHABLE w_PARSED w_UNAVAILABLE))])) X48 hx rfl rfl rfl (pc0 := 81) (pc' := 88) (same := false) rfl (hb hby at_81) rfl (decide_eq_false fun q => hc81 (Value.ref.inj q)) (by decide) (by decide) ?_
                show Steps p.tables e below (T48.setTop (mkF m 88 #[.val (.int p1), .val (.int p2), .val (.int (f0_l2_23 p1 p2 w_UNREACHABLE w_PARSED w_UNAVAILABLE)), .val (.ref w_UNREACHABLE)] [])) _
                refine XS.iconst X48.here hx rfl (hb hby at_88) ?_
                show Steps p.tables e below (T48.setTop (mkF m 89 #[.val (.int p1), .val (.int p2), .val (.int (f0_l2_23 p1 p2 w_UNREACHABLE w_PARSED w_UNAVAILABLE)), .val (.ref w_UNREACHABLE)] [(.int (0 : Int32))])) _
                exact retN X48 hx (t := .boolean) Bd.returns (by simp) (hb hby at_89) hr
              · show Q0 Z p1 p2 w_UNREACHABLE w_PARSED w_UNAVAILABLE h0 n0 _ T48.heap _
                rw [e48]
                exact ⟨by rw [eq33], N48, trivial⟩
          · obtain ⟨T49, X49, e49, st49⟩ := getS2 X0 hx hZ hown (host := "") (Or.inl (hw _ (List.mem_of_getElem? (i := 11) rfl))) Via.refl e0 S_UNAVAILABLE (g := (mkF m 65 #[.val (.int p1), .val (.int p2), .val (.int (f0_l2_23 p1 p2 w_UNREACHABLE w_PARSED w_UNAVAILABLE)), .unset] [])) rfl (hb hby at_65)
            obtain ⟨_, _, ⟨T50, L50, k50, n50⟩, -, X50, ⟨Lc50, hQ50, l50, y50, z50⟩, st50⟩ := Jvm.LawKit.callS X49 hx (y := (⟨"com/example/erewash/erewash/FetchOutcome", "ofStatus", "(I)Lcom/example/erewash/erewash/FetchOutcome;"⟩ : MethodName)) hown (mvT hZ (hw _ (List.mem_of_getElem? (i := 4) rfl))) (mvT hZ (hw _ (List.mem_of_getElem? (i := 5) rfl))) (mvT hZ (hw _ (List.mem_of_getElem? (i := 2) rfl))) (mvT hZ (hw _ (List.mem_of_getElem? (i := 6) rfl))) (by decide) (backOf (W := 0) (rm1 l Z a0 hw [] (f0_l2_23 p1 p2 w_UNREACHABLE w_PARSED w_UNAVAILABLE) w_UNREACHABLE w_PARSED w_UNAVAILABLE h0 n0 Z0 S_UNREACHABLE S_PARSED S_UNAVAILABLE) hZ (hw _ (List.mem_of_getElem? (i := 6) rfl)) (hw _ (List.mem_of_getElem? (i := 2) rfl)) (by decide) (by decide)) (g := (mkF m 77 #[.val (.int p1), .val (.int p2), .val (.int (f0_l2_23 p1 p2 w_UNREACHABLE w_PARSED w_UNAVAILABLE)), .val (.ref w_UNAVAILABLE)] [(.int (f0_l2_23 p1 p2 w_UNREACHABLE w_PARSED w_UNAVAILABLE))])) rfl (by rw [hml]; rfl) (argsL := [(.int (f0_l2_23 p1 p2 w_UNREACHABLE w_PARSED w_UNAVAILABLE))]) (rest := []) (lenOf pd_0 rfl) rfl (by show 2 * 0 + _ ≤ _; exact Nat.le_of_eq rfl) (hb hby at_77) (fun _ _ => ⟨rfl, e49, (by decide : 0 + 0 ≤ _), (by decide : 0 + 0 ≤ _)⟩)
            dsimp only [Pt.U, Pt.locs, Pt.cells, Pt.slots] at X50 l50 y50 z50 st50 hQ50
            subst l50 y50 z50
            obtain ⟨rfl, N50q, e50⟩ := hQ50
            have N50 := Fr.app N0 N50q
            have pre34 : ∀ t, Steps p.tables e below (T50.setTop (mkF m 81 #[.val (.int p1), .val (.int p2), .val (.int (f0_l2_23 p1 p2 w_UNREACHABLE w_PARSED w_UNAVAILABLE)), .val (.ref w_UNAVAILABLE)] [(.ref w_UNAVAILABLE), (.ref (f1 (f0_l2_23 p1 p2 w_UNREACHABLE w_PARSED w_UNAVAILABLE) w_UNREACHABLE w_PARSED w_UNAVAILABLE))])) t → Steps p.tables e below (s₁.setTop (entryFrame m #[(.int p1), (.int p2)] maxLocals)) t := by
              intro t k
              refine pre30 t ?_
              show Steps p.tables e below (s₁.setTop (mkF m 62 #[.val (.int p1), .val (.int p2), .val (.int (f0_l2_23 p1 p2 w_UNREACHABLE w_PARSED w_UNAVAILABLE)), .unset] [(.int (429 : Int32)), (.int (f0_l2_23 p1 p2 w_UNREACHABLE w_PARSED w_UNAVAILABLE))])) _
              refine XS.icmpNo X0.here hx rfl (hb hby at_62) rfl (feq hc62).1 ?_
              show Steps p.tables e below (s₁.setTop (mkF m 65 #[.val (.int p1), .val (.int p2), .val (.int (f0_l2_23 p1 p2 w_UNREACHABLE w_PARSED w_UNAVAILABLE)), .unset] [])) _
              refine st49 _ ?_
              show Steps p.tables e below (T49.setTop (mkF m 68 #[.val (.int p1), .val (.int p2), .val (.int (f0_l2_23 p1 p2 w_UNREACHABLE w_PARSED w_UNAVAILABLE)), .unset] [(.ref w_UNAVAILABLE)])) _
              refine XS.astoreN X49.here hx rfl (hb hby at_68) rfl rfl (l' := #[.val (.int p1), .val (.int p2), .val (.int (f0_l2_23 p1 p2 w_UNREACHABLE w_PARSED w_UNAVAILABLE)), .val (.ref w_UNAVAILABLE)]) rfl ?_
              show Steps p.tables e below (T49.setTop (mkF m 69 #[.val (.int p1), .val (.int p2), .val (.int (f0_l2_23 p1 p2 w_UNREACHABLE w_PARSED w_UNAVAILABLE)), .val (.ref w_UNAVAILABLE)] [])) _
              refine XS.goto X49.here hx rfl (pc0 := 69) (pc' := 76) rfl (hb hby at_69) (by decide) (by decide) ?_
              show Steps p.tables e below (T49.setTop (mkF m 76 #[.val (.int p1), .val (.int p2), .val (.int (f0_l2_23 p1 p2 w_UNREACHABLE w_PARSED w_UNAVAILABLE)), .val (.ref w_UNAVAILABLE)] [])) _
              refine XS.iloadN X49.here hx rfl (hb hby at_76) rfl ?_
              show Steps p.tables e below (T49.setTop (mkF m 77 #[.val (.int p1), .val (.int p2), .val (.int (f0_l2_23 p1 p2 w_UNREACHABLE w_PARSED w_UNAVAILABLE)), .val (.ref w_UNAVAILABLE)] [(.int (f0_l2_23 p1 p2 w_UNREACHABLE w_PARSED w_UNAVAILABLE))])) _
              refine st50 _ ?_
              show Steps p.tables e below (T50.setTop (mkF m 80 #[.val (.int p1), .val (.int p2), .val (.int (f0_l2_23 p1 p2 w_UNREACHABLE w_PARSED w_UNAVAILABLE)), .val (.ref w_UNAVAILABLE)] [(.ref (f1 (f0_l2_23 p1 p2 w_UNREACHABLE w_PARSED w_UNAVAILABLE) w_UNREACHABLE w_PARSED w_UNAVAILABLE))])) _
              refine XS.aloadN X50.here hx rfl (hb hby at_80) rfl rfl ?_
              exact k
            by_cases hc81 : (f1 (f0_l2_23 p1 p2 w_UNREACHABLE w_PARSED w_UNAVAILABLE) w_UNREACHABLE w_PARSED w_UNAVAILABLE) = w_UNAVAILABLE
            · have eq35 : (f0 p1 p2 w_UNREACHABLE w_PARSED w_UNAVAILABLE) = (1 : Int32) := by unfold f0; simp only [if_neg hc27, if_pos hc34, if_neg hc48, if_neg hc55, if_neg hc62, if_pos hc81]
              obtain ⟨fs, hr, hrun, hended, hW, hsame⟩ := X50.leave (v := some (.int (1 : Int32))) (fun h => by rw [Bd.returns] at h; cases h)
              refine ⟨_, _, pre34 _ ?_, hrun, hended, _, _, rfl, ?_, ⟨_, rfl⟩, hW, hsame.mono (by decide) (by decide)⟩
              · show Steps p.tables e below (T50.setTop (mkF m 81 #[.val (.int p1), .val (.int p2), .val (.int (f0_l2_23 p1 p2 w_UNREACHABLE w_PARSED w_UNAVAILABLE)), .val (.ref w_UNAVAILABLE)] [(.ref w_UNAVAILABLE), (.ref (f1 (f0_l2_23 p1 p2 w_UNREACHABLE w_PARSED w_UNAVAILABLE) w_UNREACHABLE w_PARSED w_UNAVAILABLE))])) _
                refine Jvm.RoadKit.acmp (g := (mkF m 81 #[.val (.int p1), .val (.int p2), .val (.int (f0_l2_23 p1 p2 w_UNREACHABLE w_PARSED w_UNAVAILABLE)), .val (.ref w_UNAVAILABLE)] [(.ref w_UNAVAILABLE), (.ref (f1 (f0_l2_23 p1 p2 w_UNREACHABLE w_PARSED w_UNAVAILABLE) w_UNREACHABLE w_PARSED w_UNAVAILABLE))])) X50 hx rfl rfl rfl (pc0 := 81) (pc' := 84) (same := true) rfl (hb hby at_81) rfl (decide_eq_true (congrArg Value.ref hc81)) (by decide) (by decide) ?_
                show Steps p.tables e below (T50.setTop (mkF m 84 #[.val (.int p1), .val (.int p2), .val (.int (f0_l2_23 p1 p2 w_UNREACHABLE w_PARSED w_UNAVAILABLE)), .val (.ref w_UNAVAILABLE)] [])) _
                refine XS.iconst X50.here hx rfl (hb hby at_84) ?_
                show Steps p.tables e below (T50.setTop (mkF m 85 #[.val (.int p1), .val (.int p2), .val (.int (f0_l2_23 p1 p2 w_UNREACHABLE w_PARSED w_UNAVAILABLE)), .val (.ref w_UNAVAILABLE)] [(.int (1 : Int32))])) _
                refine XS.goto X50.here hx rfl (pc0 := 85) (pc' := 89) rfl (hb hby at_85) (by decide) (by decide) ?_
                show Steps p.tables e below (T50.setTop (mkF m 89 #[.val (.int p1), .val (.int p2), .val (.int (f0_l2_23 p1 p2 w_UNREACHABLE w_PARSED w_UNAVAILABLE)), .val (.ref w_UNAVAILABLE)] [(.int (1 : Int32))])) _
                exact retN X50 hx (t := .boolean) Bd.returns (by simp) (hb hby at_89) hr
              · show Q0 Z p1 p2 w_UNREACHABLE w_PARSED w_UNAVAILABLE h0 n0 _ T50.heap _
                rw [e50]
                exact ⟨by rw [eq35], N50, trivial⟩
            · have eq36 : (f0 p1 p2 w_UNREACHABLE w_PARSED w_UNAVAILABLE) = (0 : Int32) := by unfold f0; simp only [if_neg hc27, if_pos hc34, if_neg hc48, if_neg hc55, if_neg hc62, if_neg hc81]
              obtain ⟨fs, hr, hrun, hended, hW, hsame⟩ := X50.leave (v := some (.int (0 : Int32))) (fun h => by rw [Bd.returns] at h; cases h)
              refine ⟨_, _, pre34 _ ?_, hrun, hended, _, _, rfl, ?_, ⟨_, rfl⟩, hW, hsame.mono (by decide) (by decide)⟩
              · show Steps p.tables e below (T50.setTop (mkF m 81 #[.val (.int p1), .val (.int p2), .val (.int (f0_l2_23 p1 p2 w_UNREACHABLE w_PARSED w_UNAVAILABLE)), .val (.ref w_UNAVAILABLE)] [(.ref w_UNAVAILABLE), (.ref (f1 (f0_l2_23 p1 p2 w_UNREACHABLE w_PARSED w_UNAVAILABLE) w_UNREACHABLE w_PARSED w_UNAVAILABLE))])) _
                refine Jvm.RoadKit.acmp (g := (mkF m 81 #[.val (.int p1), .val (.int p2), .val (.int (f0_l2_23 p1 p2 w_UNREACHABLE w_PARSED w_UNAVAILABLE)), .val (.ref w_UNAVAILABLE)] [(.ref w_UNAVAILABLE), (.ref (f1 (f0_l2_23 p1 p2 w_UNREACHABLE w_PARSED w_UNAVAILABLE) w_UNREACHABLE w_PARSED w_UNAVAILABLE))])) X50 hx rfl rfl rfl (pc0 := 81) (pc' := 88) (same := false) rfl (hb hby at_81) rfl (decide_eq_false fun q => hc81 (Value.ref.inj q)) (by decide) (by decide) ?_
                show Steps p.tables e below (T50.setTop (mkF m 88 #[.val (.int p1), .val (.int p2), .val (.int (f0_l2_23 p1 p2 w_UNREACHABLE w_PARSED w_UNAVAILABLE)), .val (.ref w_UNAVAILABLE)] [])) _
                refine XS.iconst X50.here hx rfl (hb hby at_88) ?_
                show Steps p.tables e below (T50.setTop (mkF m 89 #[.val (.int p1), .val (.int p2), .val (.int (f0_l2_23 p1 p2 w_UNREACHABLE w_PARSED w_UNAVAILABLE)), .val (.ref w_UNAVAILABLE)] [(.int (0 : Int32))])) _
                exact retN X50 hx (t := .boolean) Bd.returns (by simp) (hb hby at_89) hr
              · show Q0 Z p1 p2 w_UNREACHABLE w_PARSED w_UNAVAILABLE h0 n0 _ T50.heap _
                rw [e50]
                exact ⟨by rw [eq36], N50, trivial⟩
    · obtain ⟨T51, X51, e51, st51⟩ := getS2 X0 hx hZ hown (host := "") (Or.inl (hw _ (List.mem_of_getElem? (i := 8) rfl))) Via.refl e0 S_PARSED (g := (mkF m 37 #[.val (.int p1), .val (.int p2), .val (.int (f0_l2_23 p1 p2 w_UNREACHABLE w_PARSED w_UNAVAILABLE)), .unset] [])) rfl (hb hby at_37)
      obtain ⟨_, _, ⟨T52, L52, k52, n52⟩, -, X52, ⟨Lc52, hQ52, l52, y52, z52⟩, st52⟩ := Jvm.LawKit.callS X51 hx (y := (⟨"com/example/erewash/erewash/FetchOutcome", "ofStatus", "(I)Lcom/example/erewash/erewash/FetchOutcome;"⟩ : MethodName)) hown (mvT hZ (hw _ (List.mem_of_getElem? (i := 4) rfl))) (mvT hZ (hw _ (List.mem_of_getElem? (i := 5) rfl))) (mvT hZ (hw _ (List.mem_of_getElem? (i := 2) rfl))) (mvT hZ (hw _ (List.mem_of_getElem? (i := 6) rfl))) (by decide) (backOf (W := 0) (rm1 l Z a0 hw [] (f0_l2_23 p1 p2 w_UNREACHABLE w_PARSED w_UNAVAILABLE) w_UNREACHABLE w_PARSED w_UNAVAILABLE h0 n0 Z0 S_UNREACHABLE S_PARSED S_UNAVAILABLE) hZ (hw _ (List.mem_of_getElem? (i := 6) rfl)) (hw _ (List.mem_of_getElem? (i := 2) rfl)) (by decide) (by decide)) (g := (mkF m 77 #[.val (.int p1), .val (.int p2), .val (.int (f0_l2_23 p1 p2 w_UNREACHABLE w_PARSED w_UNAVAILABLE)), .val (.ref w_PARSED)] [(.int (f0_l2_23 p1 p2 w_UNREACHABLE w_PARSED w_UNAVAILABLE))])) rfl (by rw [hml]; rfl) (argsL := [(.int (f0_l2_23 p1 p2 w_UNREACHABLE w_PARSED w_UNAVAILABLE))]) (rest := []) (lenOf pd_0 rfl) rfl (by show 2 * 0 + _ ≤ _; exact Nat.le_of_eq rfl) (hb hby at_77) (fun _ _ => ⟨rfl, e51, (by decide : 0 + 0 ≤ _), (by decide : 0 + 0 ≤ _)⟩)
      dsimp only [Pt.U, Pt.locs, Pt.cells, Pt.slots] at X52 l52 y52 z52 st52 hQ52
      subst l52 y52 z52
      obtain ⟨rfl, N52q, e52⟩ := hQ52
      have N52 := Fr.app N0 N52q
      have pre37 : ∀ t, Steps p.tables e below (T52.setTop (mkF m 81 #[.val (.int p1), .val (.int p2), .val (.int (f0_l2_23 p1 p2 w_UNREACHABLE w_PARSED w_UNAVAILABLE)), .val (.ref w_PARSED)] [(.ref w_PARSED), (.ref (f1 (f0_l2_23 p1 p2 w_UNREACHABLE w_PARSED w_UNAVAILABLE) w_UNREACHABLE w_PARSED w_UNAVAILABLE))])) t → Steps p.tables e below (s₁.setTop (entryFrame m #[(.int p1), (.int p2)] maxLocals)) t := by
        intro t k
        refine pre21 t ?_
        show Steps p.tables e below (s₁.setTop (mkF m 34 #[.val (.int p1), .val (.int p2), .val (.int (f0_l2_23 p1 p2 w_UNREACHABLE w_PARSED w_UNAVAILABLE)), .unset] [(.int (299 : Int32)), (.int (f0_l2_23 p1 p2 w_UNREACHABLE w_PARSED w_UNAVAILABLE))])) _
        refine XS.icmpNo X0.here hx rfl (hb hby at_34) rfl (flt hc34).2.2.1 ?_
        show Steps p.tables e below (s₁.setTop (mkF m 37 #[.val (.int p1), .val (.int p2), .val (.int (f0_l2_23 p1 p2 w_UNREACHABLE w_PARSED w_UNAVAILABLE)), .unset] [])) _
        refine st51 _ ?_
        show Steps p.tables e below (T51.setTop (mkF m 40 #[.val (.int p1), .val (.int p2), .val (.int (f0_l2_23 p1 p2 w_UNREACHABLE w_PARSED w_UNAVAILABLE)), .unset] [(.ref w_PARSED)])) _
        refine XS.astoreN X51.here hx rfl (hb hby at_40) rfl rfl (l' := #[.val (.int p1), .val (.int p2), .val (.int (f0_l2_23 p1 p2 w_UNREACHABLE w_PARSED w_UNAVAILABLE)), .val (.ref w_PARSED)]) rfl ?_
        show Steps p.tables e below (T51.setTop (mkF m 41 #[.val (.int p1), .val (.int p2), .val (.int (f0_l2_23 p1 p2 w_UNREACHABLE w_PARSED w_UNAVAILABLE)), .val (.ref w_PARSED)] [])) _
        refine XS.goto X51.here hx rfl (pc0 := 41) (pc' := 76) rfl (hb hby at_41) (by decide) (by decide) ?_
        show Steps p.tables e below (T51.setTop (mkF m 76 #[.val (.int p1), .val (.int p2), .val (.int (f0_l2_23 p1 p2 w_UNREACHABLE w_PARSED w_UNAVAILABLE)), .val (.ref w_PARSED)] [])) _
        refine XS.iloadN X51.here hx rfl (hb hby at_76) rfl ?_
        show Steps p.tables e below (T51.setTop (mkF m 77 #[.val (.int p1), .val (.int p2), .val (.int (f0_l2_23 p1 p2 w_UNREACHABLE w_PARSED w_UNAVAILABLE)), .val (.ref w_PARSED)] [(.int (f0_l2_23 p1 p2 w_UNREACHABLE w_PARSED w_UNAVAILABLE))])) _
        refine st52 _ ?_
        show Steps p.tables e below (T52.setTop (mkF m 80 #[.val (.int p1), .val (.int p2), .val (.int (f0_l2_23 p1 p2 w_UNREACHABLE w_PARSED w_UNAVAILABLE)), .val (.ref w_PARSED)] [(.ref (f1 (f0_l2_23 p1 p2 w_UNREACHABLE w_PARSED w_UNAVAILABLE) w_UNREACHABLE w_PARSED w_UNAVAILABLE))])) _
        refine XS.aloadN X52.here hx rfl (hb hby at_80) rfl rfl ?_
        exact k
      by_cases hc81 : (f1 (f0_l2_23 p1 p2 w_UNREACHABLE w_PARSED w_UNAVAILABLE) w_UNREACHABLE w_PARSED w_UNAVAILABLE) = w_PARSED
      · have eq38 : (f0 p1 p2 w_UNREACHABLE w_PARSED w_UNAVAILABLE) = (1 : Int32) := by unfold f0; simp only [if_neg hc27, if_neg hc34, if_pos hc81]
        obtain ⟨fs, hr, hrun, hended, hW, hsame⟩ := X52.leave (v := some (.int (1 : Int32))) (fun h => by rw [Bd.returns] at h; cases h)
        refine ⟨_, _, pre37 _ ?_, hrun, hended, _, _, rfl, ?_, ⟨_, rfl⟩, hW, hsame.mono (by decide) (by decide)⟩
        · show Steps p.tables e below (T52.setTop (mkF m 81 #[.val (.int p1), .val (.int p2), .val (.int (f0_l2_23 p1 p2 w_UNREACHABLE w_PARSED w_UNAVAILABLE)), .val (.ref w_PARSED)] [(.ref w_PARSED), (.ref (f1 (f0_l2_23 p1 p2 w_UNREACHABLE w_PARSED w_UNAVAILABLE) w_UNREACHABLE w_PARSED w_UNAVAILABLE))])) _
          refine Jvm.RoadKit.acmp (g := (mkF m 81 #[.val (.int p1), .val (.int p2), .val (.int (f0_l2_23 p1 p2 w_UNREACHABLE w_PARSED w_UNAVAILABLE)), .val (.ref w_PARSED)] [(.ref w_PARSED), (.ref (f1 (f0_l2_23 p1 p2 w_UNREACHABLE w_PARSED w_UNAVAILABLE) w_UNREACHABLE w_PARSED w_UNAVAILABLE))])) X52 hx rfl rfl rfl (pc0 := 81) (pc' := 84) (same := true) rfl (hb hby at_81) rfl (decide_eq_true (congrArg Value.ref hc81)) (by decide) (by decide) ?_
          show Steps p.tables e below (T52.setTop (mkF m 84 #[.val (.int p1), .val (.int p2), .val (.int (f0_l2_23 p1 p2 w_UNREACHABLE w_PARSED w_UNAVAILABLE)), .val (.ref w_PARSED)] [])) _
          refine XS.iconst X52.here hx rfl (hb hby at_84) ?_
          show Steps p.tables e below (T52.setTop (mkF m 85 #[.val (.int p1), .val (.int p2), .val (.int (f0_l2_23 p1 p2 w_UNREACHABLE w_PARSED w_UNAVAILABLE)), .val (.ref w_PARSED)] [(.int (1 : Int32))])) _
          refine XS.goto X52.here hx rfl (pc0 := 85) (pc' := 89) rfl (hb hby at_85) (by decide) (by decide) ?_
          show Steps p.tables e below (T52.setTop (mkF m 89 #[.val (.int p1), .val (.int p2), .val (.int (f0_l2_23 p1 p2 w_UNREACHABLE w_PARSED w_UNAVAILABLE)), .val (.ref w_PARSED)] [(.int (1 : Int32))])) _
          exact retN X52 hx (t := .boolean) Bd.returns (by simp) (hb hby at_89) hr
        · show Q0 Z p1 p2 w_UNREACHABLE w_PARSED w_UNAVAILABLE h0 n0 _ T52.heap _
          rw [e52]
          exact ⟨by rw [eq38], N52, trivial⟩
      · have eq39 : (f0 p1 p2 w_UNREACHABLE w_PARSED w_UNAVAILABLE) = (0 : Int32) := by unfold f0; simp only [if_neg hc27, if_neg hc34, if_neg hc81]
        obtain ⟨fs, hr, hrun, hended, hW, hsame⟩ := X52.leave (v := some (.int (0 : Int32))) (fun h => by rw [Bd.returns] at h; cases h)
        refine ⟨_, _, pre37 _ ?_, hrun, hended, _, _, rfl, ?_, ⟨_, rfl⟩, hW, hsame.mono (by decide) (by decide)⟩
        · show Steps p.tables e below (T52.setTop (mkF m 81 #[.val (.int p1), .val (.int p2), .val (.int (f0_l2_23 p1 p2 w_UNREACHABLE w_PARSED w_UNAVAILABLE)), .val (.ref w_PARSED)] [(.ref w_PARSED), (.ref (f1 (f0_l2_23 p1 p2 w_UNREACHABLE w_PARSED w_UNAVAILABLE) w_UNREACHABLE w_PARSED w_UNAVAILABLE))])) _
          refine Jvm.RoadKit.acmp (g := (mkF m 81 #[.val (.int p1), .val (.int p2), .val (.int (f0_l2_23 p1 p2 w_UNREACHABLE w_PARSED w_UNAVAILABLE)), .val (.ref w_PARSED)] [(.ref w_PARSED), (.ref (f1 (f0_l2_23 p1 p2 w_UNREACHABLE w_PARSED w_UNAVAILABLE) w_UNREACHABLE w_PARSED w_UNAVAILABLE))])) X52 hx rfl rfl rfl (pc0 := 81) (pc' := 88) (same := false) rfl (hb hby at_81) rfl (decide_eq_false fun q => hc81 (Value.ref.inj q)) (by decide) (by decide) ?_
          show Steps p.tables e below (T52.setTop (mkF m 88 #[.val (.int p1), .val (.int p2), .val (.int (f0_l2_23 p1 p2 w_UNREACHABLE w_PARSED w_UNAVAILABLE)), .val (.ref w_PARSED)] [])) _
          refine XS.iconst X52.here hx rfl (hb hby at_88) ?_
          show Steps p.tables e below (T52.setTop (mkF m 89 #[.val (.int p1), .val (.int p2), .val (.int (f0_l2_23 p1 p2 w_UNREACHABLE w_PARSED w_UNAVAILABLE)), .val (.ref w_PARSED)] [(.int (0 : Int32))])) _
          exact retN X52 hx (t := .boolean) Bd.returns (by simp) (hb hby at_89) hr
        · show Q0 Z p1 p2 w_UNREACHABLE w_PARSED w_UNAVAILABLE h0 n0 _ T52.heap _
          rw [e52]
          exact ⟨by rw [eq39], N52, trivial⟩
theorem own_f1 (s : Int32) (u p v : Addr) : f1 s u p v = if 200 ≤ s.toInt ∧ s.toInt ≤ 299 then p else if 400 ≤ s.toInt ∧ s.toInt ≤ 499 ∧ ¬ s.toInt = 429 then v else u := by
  have hd := c_idiv s 100 100 rfl (by decide)
  have q2 : s / 100 = 2 ↔ 200 ≤ s.toInt ∧ s.toInt ≤ 299 := by
    rw [← Int32.toInt_inj, show (2 : Int32).toInt = 2 from rfl]
    by_cases h : 0 ≤ s.toInt
    · rw [hd.1 h]; omega
    · rw [hd.2 (by omega)]; omega
  have q4 : s / 100 = 4 ↔ 400 ≤ s.toInt ∧ s.toInt ≤ 499 := by
    rw [← Int32.toInt_inj, show (4 : Int32).toInt = 4 from rfl]
    by_cases h : 0 ≤ s.toInt
    · rw [hd.1 h]; omega
    · rw [hd.2 (by omega)]; omega
  have q9 : s = 429 ↔ s.toInt = 429 := by rw [← Int32.toInt_inj]; rfl
  unfold f1
  simp only [q2, q4, q9]
  by_cases h1 : 200 ≤ s.toInt ∧ s.toInt ≤ 299
  · rw [if_pos h1, if_pos h1]
  · rw [if_neg h1, if_neg h1]
    by_cases h2 : 400 ≤ s.toInt ∧ s.toInt ≤ 499
    · rw [if_pos h2]
      by_cases h3 : s.toInt = 429
      · rw [if_pos h3, if_neg (by omega)]
      · rw [if_neg h3, if_pos (by omega)]
    · rw [if_neg h2, if_neg (by omega)]
theorem own_law (x m : Int32) (u p v : Addr) : f0 x m u p v = 1 := by
  unfold f0
  generalize f0_l2_23 x m u p v = s
  have q9 : s = 429 ↔ s.toInt = 429 := by rw [← Int32.toInt_inj]; rfl
  have hf := own_f1 s u p v
  have fu : (s.toInt < 200 ∨ (299 < s.toInt ∧ s.toInt < 400) ∨ 499 < s.toInt ∨ s.toInt = 429) → f1 s u p v = u := fun h => by rw [hf, if_neg (by omega), if_neg (by omega)]
  have fp : (200 ≤ s.toInt ∧ s.toInt ≤ 299) → f1 s u p v = p := fun h => by rw [hf, if_pos h]
  have fv : (400 ≤ s.toInt ∧ s.toInt ≤ 499 ∧ ¬ s.toInt = 429) → f1 s u p v = v := fun h => by rw [hf, if_neg (by omega), if_pos h]
  simp only [q9, Int32.lt_iff_toInt_lt, show (200 : Int32).toInt = 200 from rfl, show (400 : Int32).toInt = 400 from rfl, show (499 : Int32).toInt = 499 from rfl, show (299 : Int32).toInt = 299 from rfl]
  repeat' split
  all_goals first | rfl | (exfalso; rename_i h; apply h; first | (apply fu; omega) | (apply fp; omega) | (apply fv; omega)) | (exfalso; omega)

set_option maxRecDepth 65536 in
set_option maxHeartbeats 40000000 in
theorem comes_1 {Post : Tables → Env → Array Value → State → Outcome → State → Prop} (hpost : ∀ tb e args s v u, (limb_1_1.after args s (.returned v) u = true ∧ limb_1_2.after args s (.returned v) u = true ∧ True) → FrameEnd s (.returned v) u (Jvm.fieldLocs frame_1_writes args s ++ Jvm.arrayLocs frame_1_arrays args s ++ Jvm.staticLocs frame_1_statics s) 0 0 → Post tb e args s (.returned v) u) :
    ArmFor flags0 classFile x code maxLocals ret World_1 tables_1 room_1 Calls_1 rest_1 Pre_1 Post := by
  intro l hfl _ _ p e ha hc hk s m args below hf hA hF happ hP
  obtain ⟨hcalls, hrest, hpre⟩ := hP
  obtain ⟨-, -, -, hnamed, -, -, -, hat⟩ := (Spec.applies_iff hf).mp happ
  obtain ⟨hg, hn⟩ := and_e (Cond.before_iff.mp (show (Jvm.Cond.and given_1 narrow_1).before args s = true from hpre))
  obtain ⟨g1, g2⟩ := and_e hg
  obtain ⟨g3, g4⟩ := and_e g2
  obtain ⟨w0, w1, rfl⟩ : ∃ w0 w1 : Value, args = #[w0, w1] := by
    have hs : args.size = 2 := by simpa [Cond.value, given_1] using g1
    obtain ⟨L⟩ := args
    match L, hs with
    | [w0, w1], _ => exact ⟨w0, w1, rfl⟩
  have hw := fun d (hd : d ∈ tables_1) => atoms_spec (ws := Jvm.Cond.code x code maxLocals ret :: tables_1) hat d (List.mem_cons_of_mem _ hd)
  have hfit : Fit s := fun {y c} hc i hi => by
    obtain ⟨ha, rfl⟩ := Array.getElem?_eq_some_iff.mp hc
    have q := List.all_eq_true.mp ((Array.all_eq_true_iff_forall_mem.mp hF) _ (Array.getElem_mem ha)) i (List.mem_range.mpr hi)
    simpa [Array.getElem?_eq_getElem hi] using q
  obtain ⟨i0, ei0⟩ := is_v g3
  obtain rfl : w0 = (.int i0) := Option.some.inj ei0
  obtain ⟨i1, ei1⟩ := is_v g4
  obtain rfl : w1 = (.int i1) := Option.some.inj ei1
  obtain ⟨n1, n2⟩ := and_e hn
  obtain ⟨n3, n4⟩ := and_e n2
  obtain ⟨a_UNREACHABLE, ea_UNREACHABLE⟩ := exa_v n1
  have S_UNREACHABLE : Sta s s.heap "com/example/erewash/erewash/FetchOutcome" "UNREACHABLE" "Lcom/example/erewash/erewash/FetchOutcome;" (.ref a_UNREACHABLE) := Sta.start ea_UNREACHABLE (Or.inr ⟨(hw _ (List.mem_of_getElem? (i := 2) rfl)), (hw _ (List.mem_of_getElem? (i := 3) rfl))⟩)
  have E_UNREACHABLE : Exa s s.heap a_UNREACHABLE "com/example/erewash/erewash/FetchOutcome" := Exa.start ea_UNREACHABLE n1
  obtain ⟨a_PARSED, ea_PARSED⟩ := exa_v n3
  have S_PARSED : Sta s s.heap "com/example/erewash/erewash/FetchOutcome" "PARSED" "Lcom/example/erewash/erewash/FetchOutcome;" (.ref a_PARSED) := Sta.start ea_PARSED (Or.inr ⟨(hw _ (List.mem_of_getElem? (i := 2) rfl)), (hw _ (List.mem_of_getElem? (i := 9) rfl))⟩)
  have E_PARSED : Exa s s.heap a_PARSED "com/example/erewash/erewash/FetchOutcome" := Exa.start ea_PARSED n3
  obtain ⟨a_UNAVAILABLE, ea_UNAVAILABLE⟩ := exa_v n4
  have S_UNAVAILABLE : Sta s s.heap "com/example/erewash/erewash/FetchOutcome" "UNAVAILABLE" "Lcom/example/erewash/erewash/FetchOutcome;" (.ref a_UNAVAILABLE) := Sta.start ea_UNAVAILABLE (Or.inr ⟨(hw _ (List.mem_of_getElem? (i := 2) rfl)), (hw _ (List.mem_of_getElem? (i := 12) rfl))⟩)
  have E_UNAVAILABLE : Exa s s.heap a_UNAVAILABLE "com/example/erewash/erewash/FetchOutcome" := Exa.start ea_UNAVAILABLE n4
  obtain ⟨n, o, h1, h2, h3, v', L, rfl, ⟨hv', N, -⟩, hq⟩ := rm0 l s _ hw tables_1 i0 i1 a_UNREACHABLE a_PARSED a_UNAVAILABLE s.heap s.heap.size (Nat.le_refl _) S_UNREACHABLE S_PARSED S_UNAVAILABLE E_UNREACHABLE E_PARSED E_UNAVAILABLE p e ha hc hk s m _ below hf ((Spec.applies_iff_loose hf).mp happ).1 ⟨rfl, State.Warmed39.refl s, rfl⟩ trivial
  rw [own_law i0 i1 a_UNREACHABLE a_PARSED a_UNAVAILABLE] at hv'
  subst hv'
  refine ⟨n, _, h1, h2, h3, hpost _ _ _ _ _ _ ⟨Cond.after_iff.mpr rfl, Cond.after_iff.mpr (eq_i res_at (Term.int_eval (1)) rfl), trivial⟩ ⟨hq.1, hq.2.1, (hq.2.2.sift fun y hy => Or.inr (N y hy)).mono (by decide) (by decide)⟩⟩
theorem main_1_1 : Claimed_1_1 := comes_1 fun _ _ _ _ _ _ h hF => ⟨h.1, hF⟩
theorem main_1_2 : Claimed_1_2 := comes_1 fun _ _ _ _ _ _ h hF => ⟨h.2.1, hF⟩
end Jvm.Pilot.@@N@@
namespace Jvm.Pilot.@@N@@
open Jvm Jvm.ClassFile Sem Op Lib Jvm.Free Jvm.Stand Jvm.Pilot.@@N@@.Jvm.D
/-! MADE BY PROGRAM (witnessworld.py) out of the Statement's table words and the real class files: 12 classes; the members and pool entries that the words name. The judged class is class 1, her method 1. -/
namespace start1
open Jvm.ClassFile
def u (s : String) : CpInfo := .utf8 (stringToUtf16 s)
/-- a pool by its gaps: so many unusable entries, then the entry; so many at the end -/
def gap : Nat → List CpInfo → List CpInfo
  | 0, r => r
  | n + 1, r => .unusable :: gap n r
def poolList (es : List (Nat × CpInfo)) (last : Nat) : List CpInfo := es.foldr (fun e r => gap e.1 (e.2 :: r)) (gap last [])
def pool (es : List (Nat × CpInfo)) (last : Nat) : Array CpInfo := ⟨poolList es last⟩
def fileOf (pool : Array CpInfo) (this : Nat) (attrs : Array Attribute := #[]) (ms : Array MethodInfo := #[]) (fl : Nat := 33) (sup : Nat := 0) (ifs : Array Nat := #[]) (fds : Array FieldInfo := #[]) : ClassFile where
  minorVersion := 0
  majorVersion := 65
  constantPool := pool
  accessFlags := fl
  thisClass := this
  superClass := sup
  interfaces := ifs
  fields := fds
  methods := ms
  attributes := attrs
def plain (name : String) (sup : Option ClassId) : Class where
  name := name
  kind := .ordinary
  loader := none
  accessFlags := 33
  super := sup
  interfaces := #[]
  cf := none
  fields := #[]
  methods := #[]
  instanceTypes := #[]
  staticTypes := #[]
  resolved := #[]
  callSites := []
  init := .initialized
  statics := none
  mirror := none

def pool0 : Array CpInfo := pool [(5, u "<init>"), (0, u "()V"), (1, .class_ 10), (1, u "java/lang/Object")] 113

def k0m0 : Method := { name := "<init>", desc := "()V", sig := { parameters := [], returnType := none }, accessFlags := 1, code := none }
/-- java/lang/Object -/
def k0 : Class := { plain "java/lang/Object" none with
  accessFlags := 33
  interfaces := #[]
  cf := some (fileOf pool0 8 #[] #[{ accessFlags := 1, nameIndex := 5, descriptorIndex := 6, attributes := #[] }] 33 0 #[] #[])
  fields := #[]
  methods := #[k0m0]
  instanceTypes := #[]
  staticTypes := #[]
  resolved := Array.replicate 124 none
  statics := none }

def pool1 : Array CpInfo := pool [(2, .class_ 4), (1, u "java/lang/Object"), (0, u "<init>"), (0, u "()V"), (0, .integer 2147483647), (0, .fieldref 9 10), (0, .class_ 11), (0, .nameAndType 12 13), (0, u "com/example/erewash/erewash/FetchOutcome"), (0, u "PARSED"), (0, u "Lcom/example/erewash/erewash/FetchOutcome;"), (0, .fieldref 9 15), (0, .nameAndType 16 13), (0, u "UNAVAILABLE"), (0, .fieldref 9 18), (0, .nameAndType 19 13), (0, u "UNREACHABLE"), (0, .methodref 9 21), (0, .nameAndType 22 23), (0, u "ofStatus"), (0, u "(I)Lcom/example/erewash/erewash/FetchOutcome;"), (0, .class_ 25), (0, u "com/example/erewash/erewash/FetchOutcomeOfStatusPinLaw"), (2, u "law"), (0, u "(II)Z")] 3

def k1m0 : Method := { name := "<init>", desc := "()V", sig := { parameters := [], returnType := none }, accessFlags := 2, code := none }
def k1c1 : Code := { maxStack := 2, maxLocals := 4, code := code, exceptionTable := #[], attributes := #[] }
def k1m1 : Method := { name := "law", desc := "(II)Z", sig := { parameters := [.int, .int], returnType := some .boolean }, accessFlags := 9, code := some k1c1 }
/-- com/example/erewash/erewash/FetchOutcomeOfStatusPinLaw -/
def k1 : Class := { plain "com/example/erewash/erewash/FetchOutcomeOfStatusPinLaw" (some 0) with
  accessFlags := 49
  interfaces := #[]
  cf := some (fileOf pool1 24 #[] #[{ accessFlags := 2, nameIndex := 5, descriptorIndex := 6, attributes := #[] }, { accessFlags := 9, nameIndex := 28, descriptorIndex := 29, attributes := #[] }] 49 2 #[] #[])
  fields := #[]
  methods := #[k1m0, k1m1]
  instanceTypes := #[]
  staticTypes := #[]
  resolved := Array.replicate 33 none
  statics := none }

def pool2 : Array CpInfo := pool [(1, .class_ 2), (0, u "java/lang/constant/Constable"), (0, .class_ 4), (0, u "java/lang/Object")] 6

/-- java/lang/constant/Constable -/
def k2 : Class := { plain "java/lang/constant/Constable" (some 0) with
  accessFlags := 1537
  interfaces := #[]
  cf := some (fileOf pool2 1 #[] #[] 1537 3 #[] #[])
  fields := #[]
  methods := #[]
  instanceTypes := #[]
  staticTypes := #[]
  resolved := Array.replicate 11 none
  statics := none }

def pool3 : Array CpInfo := pool [(1, .class_ 2), (0, u "java/lang/Comparable"), (0, .class_ 4), (0, u "java/lang/Object")] 7

/-- java/lang/Comparable -/
def k3 : Class := { plain "java/lang/Comparable" (some 0) with
  accessFlags := 1537
  interfaces := #[]
  cf := some (fileOf pool3 1 #[] #[] 1537 3 #[] #[])
  fields := #[]
  methods := #[]
  instanceTypes := #[]
  staticTypes := #[]
  resolved := Array.replicate 12 none
  statics := none }

def pool4 : Array CpInfo := pool [(1, .class_ 2), (0, u "java/io/Serializable"), (0, .class_ 4), (0, u "java/lang/Object")] 2

/-- java/io/Serializable -/
def k4 : Class := { plain "java/io/Serializable" (some 0) with
  accessFlags := 1537
  interfaces := #[]
  cf := some (fileOf pool4 1 #[] #[] 1537 3 #[] #[])
  fields := #[]
  methods := #[]
  instanceTypes := #[]
  staticTypes := #[]
  resolved := Array.replicate 7 none
  statics := none }

def pool5 : Array CpInfo := pool [(2, .class_ 4), (1, u "java/lang/Enum"), (0, u "name"), (0, u "Ljava/lang/String;"), (2, u "ordinal"), (0, u "I"), (1, .class_ 14), (1, u "java/lang/Object"), (4, u "hash"), (86, .class_ 108), (1, u "java/lang/Enum$EnumDesc"), (2, .class_ 112), (0, u "java/lang/constant/Constable"), (0, .class_ 114), (0, u "java/lang/Comparable"), (0, .class_ 116), (0, u "java/io/Serializable")] 87

/-- java/lang/Enum -/
def k5 : Class := { plain "java/lang/Enum" (some 0) with
  accessFlags := 1057
  interfaces := #[2, 3, 4]
  cf := some (fileOf pool5 2 #[.nestMembers #[106]] #[] 1057 12 #[111, 113, 115] #[{ accessFlags := 18, nameIndex := 5, descriptorIndex := 6, attributes := #[] }, { accessFlags := 18, nameIndex := 9, descriptorIndex := 10, attributes := #[] }, { accessFlags := 2, nameIndex := 19, descriptorIndex := 10, attributes := #[] }])
  fields := #[{ name := "name", type := (.object "java/lang/String"), accessFlags := 18, slot := 0, constantValue := 0 }, { name := "ordinal", type := .int, accessFlags := 18, slot := 1, constantValue := 0 }, { name := "hash", type := .int, accessFlags := 2, slot := 2, constantValue := 0 }]
  methods := #[]
  instanceTypes := #[(.object "java/lang/String"), .int, .int]
  staticTypes := #[]
  resolved := Array.replicate 204 none
  statics := none }

def pool6 : Array CpInfo := pool [(1, .class_ 2), (0, u "com/example/erewash/erewash/FetchOutcome"), (0, .fieldref 1 4), (0, .nameAndType 5 6), (0, u "PARSED"), (0, u "Lcom/example/erewash/erewash/FetchOutcome;"), (0, .fieldref 1 8), (0, .nameAndType 9 6), (0, u "UNAVAILABLE"), (0, .fieldref 1 11), (0, .nameAndType 12 6), (0, u "UNREACHABLE"), (2, u "$VALUES"), (0, u "[Lcom/example/erewash/erewash/FetchOutcome;"), (6, .class_ 25), (1, u "java/lang/Enum"), (8, u "text"), (0, u "Ljava/lang/String;"), (16, u "MAX_REDIRECTS"), (0, u "I"), (2, u "TOO_MANY_REQUESTS"), (8, u "ofStatus"), (0, u "(I)Lcom/example/erewash/erewash/FetchOutcome;")] 7

def k6c0 : Code := { maxStack := 2, maxLocals := 3, code := prog_1_method_4_code, exceptionTable := #[], attributes := #[] }
def k6m0 : Method := { name := "ofStatus", desc := "(I)Lcom/example/erewash/erewash/FetchOutcome;", sig := { parameters := [.int], returnType := some (.object "com/example/erewash/erewash/FetchOutcome") }, accessFlags := 9, code := some k6c0 }
/-- com/example/erewash/erewash/FetchOutcome -/
def k6 : Class := { plain "com/example/erewash/erewash/FetchOutcome" (some 5) with
  accessFlags := 16433
  interfaces := #[]
  cf := some (fileOf pool6 1 #[] #[{ accessFlags := 9, nameIndex := 65, descriptorIndex := 66, attributes := #[] }] 16433 23 #[] #[{ accessFlags := 16409, nameIndex := 5, descriptorIndex := 6, attributes := #[] }, { accessFlags := 16409, nameIndex := 9, descriptorIndex := 6, attributes := #[] }, { accessFlags := 16409, nameIndex := 12, descriptorIndex := 6, attributes := #[] }, { accessFlags := 25, nameIndex := 52, descriptorIndex := 53, attributes := #[] }, { accessFlags := 26, nameIndex := 56, descriptorIndex := 53, attributes := #[] }, { accessFlags := 18, nameIndex := 34, descriptorIndex := 35, attributes := #[] }, { accessFlags := 4122, nameIndex := 15, descriptorIndex := 16, attributes := #[] }])
  fields := #[{ name := "PARSED", type := (.object "com/example/erewash/erewash/FetchOutcome"), accessFlags := 16409, slot := 0, constantValue := 0 }, { name := "UNAVAILABLE", type := (.object "com/example/erewash/erewash/FetchOutcome"), accessFlags := 16409, slot := 1, constantValue := 0 }, { name := "UNREACHABLE", type := (.object "com/example/erewash/erewash/FetchOutcome"), accessFlags := 16409, slot := 2, constantValue := 0 }, { name := "MAX_REDIRECTS", type := .int, accessFlags := 25, slot := 3, constantValue := 0 }, { name := "TOO_MANY_REQUESTS", type := .int, accessFlags := 26, slot := 4, constantValue := 0 }, { name := "text", type := (.object "java/lang/String"), accessFlags := 18, slot := 3, constantValue := 0 }, { name := "$VALUES", type := (.array (.object "com/example/erewash/erewash/FetchOutcome")), accessFlags := 4122, slot := 5, constantValue := 0 }]
  methods := #[k6m0]
  instanceTypes := #[(.object "java/lang/String"), .int, .int, (.object "java/lang/String")]
  staticTypes := #[(.object "com/example/erewash/erewash/FetchOutcome"), (.object "com/example/erewash/erewash/FetchOutcome"), (.object "com/example/erewash/erewash/FetchOutcome"), .int, .int, (.array (.object "com/example/erewash/erewash/FetchOutcome"))]
  resolved := Array.replicate 74 none
  statics := some 0 }

def pool7 : Array CpInfo := pool [(1, u "java/lang/Cloneable"), (0, .class_ 1), (0, u "java/lang/Object"), (0, .class_ 3)] 3

/-- java/lang/Cloneable -/
def k7 : Class := { plain "java/lang/Cloneable" (some 0) with
  accessFlags := 1537
  interfaces := #[]
  cf := some (fileOf pool7 2 #[] #[] 1537 4 #[] #[])
  fields := #[]
  methods := #[]
  instanceTypes := #[]
  staticTypes := #[]
  resolved := Array.replicate 8 none
  statics := none }

/-- the primitive byte -/
def k8 : Class := { plain "byte" none with kind := .primitive 'B', accessFlags := 0x411 }
/-- [B -/
def k9 : Class := { plain "[B" (some 0) with kind := .array 8 .byte, interfaces := #[7, 4], accessFlags := 1041 }

/-- the primitive int -/
def k10 : Class := { plain "int" none with kind := .primitive 'I', accessFlags := 0x411 }
/-- [I -/
def k11 : Class := { plain "[I" (some 0) with kind := .array 10 .int, interfaces := #[7, 4], accessFlags := 1041 }

def heap : Heap := #[{ cls := 6, slots := #[.ref 2, .ref 3, .ref 1, .int 0, .int 0, .null], vm := .statics 6 },
  { cls := 6, slots := #[.null, .int 0, .int 0, .null], vm := .none },
  { cls := 6, slots := #[.null, .int 1, .int 0, .null], vm := .none },
  { cls := 6, slots := #[.null, .int 2, .int 0, .null], vm := .none }]
def classes : Array Class := #[k0, k1, k2, k3, k4, k5, k6, k7, k8, k9, k10, k11]
def interned : List (Array UInt16 × Addr) := []
def slotsUsed : Nat := 18
def theMethod : MethodId := ⟨1, 1⟩
def args0 : Array Value := #[.int 200, .int 2]
def aboutOver (below : List Frame) : State where
  vm := { classes := classes, interned := interned.toArray }
  heap := heap
  slotsUsed := slotsUsed
  threads := #[{ frames := .invoking theMethod args0 :: below }]
def below0 : List Frame := [.native { method := ⟨0, 0⟩, args := #[] }]
def about1 : State := aboutOver below0
def p0 : Program := .bare "" "" ""
def e0 : Env := launch0.env 0 0 0
theorem w_frames : about1.frames = Frame.invoking theMethod args0 :: below0 := rfl
set_option maxRecDepth 65536 in
theorem w_args : argsFit about1.vm theMethod args0 = true := by decide +kernel
set_option maxRecDepth 65536 in
theorem w_heap : heapFits about1 = true := by decide +kernel
set_option maxRecDepth 65536 in
theorem w_runnable : about1.curStatus? = some .runnable := by decide +kernel
set_option maxRecDepth 65536 in
theorem w_alone : about1.alone = true := by decide +kernel
set_option maxRecDepth 65536 in
theorem w_named : about1.methodNamed? x = some theMethod := by decide +kernel
set_option maxRecDepth 65536 in
theorem w_hears : about1.hears theMethod below0 = true := by decide +kernel
set_option maxRecDepth 65536 in
theorem w_ripe : about1.ripe theMethod args0 below0 = true := by decide +kernel
theorem w_running : about1.status = .running := rfl
set_option maxRecDepth 65536 in
theorem w_room : about1.hasRoom e0.platform room_1 = true :=
  launch0.hasRoom_least _ room_1 (by decide +kernel) (by decide +kernel) (by decide +kernel) (by decide +kernel) (by decide +kernel) (by decide +kernel)
theorem allAtoms_all (ts : List Jvm.Cond) (a : Array Jvm.Value) (st : Jvm.State) : (allAtoms ts).before a st = ts.all (fun c => c.before a st) := by
  induction ts with
  | nil => rfl
  | cons c t ih =>
    show (Jvm.Cond.and c (allAtoms t)).before a st = _
    rw [Jvm.Cond.before_and, ih, List.all_cons]
def words1 : List Jvm.Cond := Jvm.Cond.code x code maxLocals ret :: tables_1
/-- a 'code' word, met by the world's own term for the bytes: nothing is compared byte by byte -/
theorem code_word {y : MethodName} {bytes : ByteArray} {mx : Nat} {rt : Option FieldType} {a : Array Value} {s : State} {m : MethodId} {meth : Method} {c : Code} (h1 : s.methodNamed? y = some m) (h2 : s.vm.method? m = some meth) (h3 : meth.code = some c) (h4 : c.code = bytes)
    (h5 : (c.maxLocals == mx && c.exceptionTable.isEmpty && decide (c.maxStack ≤ mostOperands) && decide (meth.sig.returnType = rt) && !meth.locks && decide (parseMethodDescriptor y.desc = some meth.sig)) = true) : (Jvm.Cond.code y bytes mx rt).before a s = true := by
  simp only [Bool.and_eq_true, beq_iff_eq, Bool.not_eq_true', decide_eq_true_eq] at h5
  obtain ⟨⟨⟨⟨⟨g1, g2⟩, g3⟩, g4⟩, g5⟩, g6⟩ := h5
  simp [Cond.before, Cond.holds, Cond.value, h1, h2, h3, h4, g1, g2, g3, g4, g5, g6]
def isCode : Jvm.Cond → Bool
  | .code _ _ _ _ => true
  | _ => false
theorem all_split {L : List Jvm.Cond} {P : Jvm.Cond → Bool} (h1 : L.all (fun c => isCode c || P c) = true) (h2 : ∀ c ∈ L.filter isCode, P c = true) : L.all P = true := by
  refine List.all_eq_true.mpr fun c hc => ?_
  have h := List.all_eq_true.mp h1 c hc
  rcases Bool.eq_false_or_eq_true (isCode c) with hi | hi
  · exact h2 c (List.mem_filter.mpr ⟨hc, hi⟩)
  · simpa [hi] using h
set_option maxRecDepth 65536 in
theorem w_c0 : (Jvm.Cond.code x code maxLocals ret).before args0 about1 = true := code_word (m := ⟨1, 1⟩) (meth := k1m1) (c := k1c1) (by decide +kernel) rfl rfl rfl (by decide +kernel)
set_option maxRecDepth 65536 in
theorem w_c1 : (Jvm.Cond.code ({ cls := "com/example/erewash/erewash/FetchOutcome", name := "ofStatus", desc := "(I)Lcom/example/erewash/erewash/FetchOutcome;" } : Jvm.MethodName) prog_1_method_4_code (3 : Nat) (Option.some (Jvm.ClassFile.FieldType.object "com/example/erewash/erewash/FetchOutcome"))).before args0 about1 = true := code_word (m := ⟨6, 0⟩) (meth := k6m0) (c := k6c0) (by decide +kernel) rfl rfl rfl (by decide +kernel)
def codes1 : List Jvm.Cond := [Jvm.Cond.code x code maxLocals ret, Jvm.Cond.code ({ cls := "com/example/erewash/erewash/FetchOutcome", name := "ofStatus", desc := "(I)Lcom/example/erewash/erewash/FetchOutcome;" } : Jvm.MethodName) prog_1_method_4_code (3 : Nat) (Option.some (Jvm.ClassFile.FieldType.object "com/example/erewash/erewash/FetchOutcome"))]
set_option maxRecDepth 65536 in
theorem codes_eq : words1.filter isCode = codes1 := rfl
theorem w_codes : ∀ c ∈ words1.filter isCode, c.before args0 about1 = true := by
  rw [codes_eq]
  intro c hc
  simp only [codes1, List.mem_cons, List.not_mem_nil, or_false] at hc
  rcases hc with rfl | rfl
  · exact w_c0
  · exact w_c1
set_option maxRecDepth 65536 in
theorem w_t1 : words1.all (fun c => isCode c || c.before args0 about1) = true := by decide +kernel
theorem w_tables : (allAtoms (Jvm.Cond.code x code maxLocals ret :: tables_1)).before args0 about1 = true := by
  rw [allAtoms_all]
  show words1.all (fun c => c.before args0 about1) = true
  refine all_split ?_ w_codes
  rw [w_t1]
set_option maxRecDepth 65536 in
theorem w_case : (Jvm.Cond.and given_1 narrow_1).before args0 about1 = true := by decide +kernel
theorem w_applies : (headSpec (Jvm.Cond.code x code maxLocals ret :: tables_1) room_1).applies x e0.platform about1 = true :=
  (Spec.applies_iff w_frames).mpr ⟨w_running, w_runnable, w_alone, w_named, w_hears, w_ripe, w_room, w_tables⟩
theorem atStart : AtStart classFile x code maxLocals ret World_1 tables_1 room_1 Calls_1 rest_1 Pre_1 launch0 p0 e0 about1 theMethod args0 below0 :=
  ⟨lists_1, trivial, launch0.admits_env _ _ _, launch0.least_env, fairChoices_fair.cas, fairChoices_fair.clock, w_frames, w_args, w_heap, w_applies, trivial, trivial, w_case⟩
end start1
theorem witness_1 : WitnessClaimed_1 := ⟨start1.p0, start1.e0, start1.about1, start1.theMethod, start1.args0, start1.below0, start1.atStart⟩
end Jvm.Pilot.@@N@@
