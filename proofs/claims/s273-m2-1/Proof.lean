import JvmDerived
import JvmDerived.Pilot.@@N@@Statement
import JvmDerived.Pilot.@@N@@Code
set_option linter.unusedVariables false
set_option linter.unusedSimpArgs false
namespace Jvm.RoadKit
open Sem ClassFile Op Lib Jvm.Stand Jvm.Free Jvm.LawKit
section New
variable {p : Program} {l : Launch} {e : Env} {R : Room} {s : State} {m : MethodId} {args : Array Value} {below : List Frame} {meth : Method} {c : Code} {T : State} {locs : List Loc} {cells slots : Nat}
theorem retI (X : Stand p l e R s m args below meth c T locs cells slots) (hx : p.tables.exec = Jvm.exec) {pc : Nat} {Ls : Array Slot} {z : Int32} {rest : List Value} (hret : meth.sig.returnType = some .int) (hd : decode c.code pc = .ok (.ireturn, 1)) {fs : List Frame}
    (hl : ∀ (f : JFrame) (acts : List Action), f.method = m → f.locked = none → f.entered = [] → (doReturn e (T.setTop f) acts (some (.int z))).1 = T.setFrames fs) : Steps p.tables e below (T.setTop (mkF m pc Ls (.int z :: rest))) (T.setFrames fs) := by
  have hm' : T.vm.method? m = some meth := X.method'
  have hn : narrow .int (.int z) = .int z := rfl
  show Steps p.tables e below (T.setTop { method := m, pc := pc, locals := Ls, stack := _ :: rest, locked := none }) _
  jvm_step X.here [X.here.top, hx, hd, hm', hret, hn]
  first | (intro acts; rw [hl _ acts rfl rfl rfl]) | rw [hl _ _ rfl rfl rfl]
  exact Steps.refl _
end New
end Jvm.RoadKit
namespace Jvm.Pilot.@@N@@
open Jvm Jvm.ClassFile Sem Op Lib Jvm.Free Jvm.Stand Jvm.LawKit Jvm.RoadKit Bundle Jvm.Pilot.@@N@@.Jvm.D

theorem pn_0 : plainName "com/example/weaverbird/weaverbird/format/ConfigurationChoice" = true := by first | (simp [plainName, overriddenIn]; done) | decide +kernel
theorem d1_0 : decode prog_37_method_1_code 0 = .ok (.aload_n 0, 1) := by decide +kernel
theorem d1_1 : decode prog_37_method_1_code 1 = .ok (.invokespecial 1, 3) := by decide +kernel
theorem d1_4 : decode prog_37_method_1_code 4 = .ok (.aload_n 0, 1) := by decide +kernel
theorem d1_5 : decode prog_37_method_1_code 5 = .ok (.aconst_null, 1) := by decide +kernel
theorem d1_6 : decode prog_37_method_1_code 6 = .ok (.putfield 7, 3) := by decide +kernel
theorem d1_9 : decode prog_37_method_1_code 9 = .ok (.aload_n 0, 1) := by decide +kernel
theorem d1_10 : decode prog_37_method_1_code 10 = .ok (.iconst 2, 1) := by decide +kernel
theorem d1_11 : decode prog_37_method_1_code 11 = .ok (.putfield 13, 3) := by decide +kernel
theorem d1_14 : decode prog_37_method_1_code 14 = .ok (.return_, 1) := by decide +kernel
theorem ef_1 (m : MethodId) (x0 : Addr) : entryFrame m #[(.ref x0)] 1 = mkF m 0 #[.val (.ref x0)] [] := by first | (simp [entryFrame, mkF, argsToLocals, Value.category]; done) | rfl
def f1_o1 (w_highest_a1 : Int32) : Int32 := (2 : Int32)
def Q1 (Z : State) (a1 : Addr) (w_highest_a1 : Int32) (h0 : Heap) (n0 : Nat) (v : Option Value) (h : Heap) (L : List Loc) : Prop := v = none ∧ Fr n0 L ∧ Keep h0 h [a1] ∧ Fld Z h a1 "com/example/weaverbird/weaverbird/format/ConfigurationChoice" "locale" "Lcom/example/weaverbird/weaverbird/format/DeviceLocale;" .null ∧ Fld Z h a1 "com/example/weaverbird/weaverbird/format/ConfigurationChoice" "highest" "I" (.int (f1_o1 w_highest_a1))
set_option maxRecDepth 65536 in
set_option maxHeartbeats 40000000 in
theorem rm1 (l : Launch) (Z : State) (a0 : Array Value) (hw : ∀ d ∈ tables_1, d.before a0 Z = true) (ws : List Jvm.Cond) (a1 : Addr) (w_highest_a1 : Int32) (h0 : Heap) (n0 : Nat) (Z0 : n0 ≤ h0.size) (F_locale_a1 : Fld Z h0 a1 "com/example/weaverbird/weaverbird/format/ConfigurationChoice" "locale" "Lcom/example/weaverbird/weaverbird/format/DeviceLocale;" .null) (F_highest_a1 : Fld Z h0 a1 "com/example/weaverbird/weaverbird/format/ConfigurationChoice" "highest" "I" (.int w_highest_a1)) (E_a1 : Exa Z h0 a1 "com/example/weaverbird/weaverbird/format/ConfigurationChoice") (g_a1 : n0 ≤ a1) :
    MetFree l (⟨"com/example/weaverbird/weaverbird/format/ConfigurationChoice", "<init>", "()V"⟩ : MethodName) (head1 (Jvm.Cond.code (⟨"com/example/weaverbird/weaverbird/format/ConfigurationChoice", "<init>", "()V"⟩ : MethodName) prog_37_method_1_code 1 none :: ws) ({ frames := 1, cells := 0, slots := 0, locals := 12 } : Room)) (fun a U => a = #[(.ref a1)] ∧ Z.Warmed39 U.vm ∧ U.heap = h0) (fun _ _ _ _ _ => True) (fun _ U o U' => ∃ v L, o = .returned v ∧ Q1 Z a1 w_highest_a1 h0 n0 v U'.heap L ∧ FrameEnd U o U' L ({ frames := 1, cells := 0, slots := 0, locals := 12 } : Room).cells ({ frames := 1, cells := 0, slots := 0, locals := 12 } : Room).slots) := by
  refine MetFree.of_bodySF (plainFor_of_name pn_0) hisR ?_
  intro p e s m args below meth c s₁ Bd hml0 hP hK
  obtain ⟨rfl, hZ, hh⟩ := hP
  have hx := Bd.exec
  have hby := Bd.bytes
  have hml : c.maxLocals = 1 := hml0
  have hown : s.vm.findClass "com/example/weaverbird/weaverbird/format/ConfigurationChoice" = some m.cls := findClass_of_methodNamed Bd.named
  have hnm := (name_of_methodNamed Bd.named Bd.method).1
  have X0 : Stand p l e ({ frames := 1, cells := 0, slots := 0, locals := 12 } : Room) s m #[(.ref a1)] below meth c s₁ [] 0 0 := Stand.of_body Bd
  have e0 : s₁.heap = h0 := by rw [← hh, Bd.state]; rfl
  have N0 := Fr.nil n0
  have pre0 : ∀ t, Steps p.tables e below (s₁.setTop (mkF m 0 #[.val (.ref a1)] [])) t → Steps p.tables e below (s₁.setTop (entryFrame m #[(.ref a1)] 1)) t := fun t k => castTop (ef_1 m a1) k
  obtain ⟨T2, X2, e2, st2⟩ := initO X0 hx hZ hown (hw _ (List.mem_of_getElem? (i := 6) rfl)) (hw _ (List.mem_of_getElem? (i := 7) rfl)) (hw _ (List.mem_of_getElem? (i := 8) rfl)) e0 (g := (mkF m 1 #[.val (.ref a1)] [(.ref a1)])) rfl (by rw [hml]; rfl) rfl (hb hby d1_1) (by decide) (W := 0) (by show 2 * 0 + _ ≤ _; exact Nat.le_of_eq rfl) (by decide)
  obtain ⟨T3, h3, X3, e3, W3, st3⟩ := putF X2 hx hZ hown (host := "") (Or.inl (hw _ (List.mem_of_getElem? (i := 9) rfl))) Via.refl e2 F_locale_a1 E_a1 (Or.inr ⟨(hw _ (List.mem_of_getElem? (i := 10) rfl)), rfl, hnm⟩) (hw _ (List.mem_of_getElem? (i := 1) rfl)) (ty := (.object "com/example/weaverbird/weaverbird/format/DeviceLocale")) (by decide) rfl rfl (g := (mkF m 6 #[.val (.ref a1)] [.null, (.ref a1)])) rfl rfl (hb hby d1_6)
  have N3 := Fr.snoc X3 N0 g_a1
  have c4 : n0 ≤ h3.size := Nat.le_trans Z0 (Keep.of_wr W3).1
  have c5 : Fld Z h3 a1 "com/example/weaverbird/weaverbird/format/ConfigurationChoice" "locale" "Lcom/example/weaverbird/weaverbird/format/DeviceLocale;" .null := F_locale_a1.same W3
  have c6 : Fld Z h3 a1 "com/example/weaverbird/weaverbird/format/ConfigurationChoice" "highest" "I" (.int w_highest_a1) := F_highest_a1.other W3 (Or.inr (slot_ne (Or.inr (hw _ (List.mem_of_getElem? (i := 12) rfl))) (Or.inr (hw _ (List.mem_of_getElem? (i := 10) rfl))) (by decide) (t := .int) (t' := (.object "com/example/weaverbird/weaverbird/format/DeviceLocale")) (by decide) (by decide)))
  have c7 : Exa Z h3 a1 "com/example/weaverbird/weaverbird/format/ConfigurationChoice" := E_a1.wr W3
  have c8 : Keep h0 h3 [a1] := (Keep.refl h0 [a1]).wr W3 (Or.inl (List.mem_of_getElem? (i := 0) rfl))
  obtain ⟨T9, h9, X9, e9, W9, st9⟩ := putF X3 hx hZ hown (host := "") (Or.inl (hw _ (List.mem_of_getElem? (i := 11) rfl))) Via.refl e3 c6 c7 (Or.inr ⟨(hw _ (List.mem_of_getElem? (i := 12) rfl)), rfl, hnm⟩) (hw _ (List.mem_of_getElem? (i := 1) rfl)) (ty := .int) (by decide) rfl rfl (g := (mkF m 11 #[.val (.ref a1)] [(.int (2 : Int32)), (.ref a1)])) rfl rfl (hb hby d1_11)
  have N9 := Fr.snoc X9 N3 g_a1
  have c10 : n0 ≤ h9.size := Nat.le_trans c4 (Keep.of_wr W9).1
  have c11 : Fld Z h9 a1 "com/example/weaverbird/weaverbird/format/ConfigurationChoice" "locale" "Lcom/example/weaverbird/weaverbird/format/DeviceLocale;" .null := c5.other W9 (Or.inr (slot_ne (Or.inr (hw _ (List.mem_of_getElem? (i := 10) rfl))) (Or.inr (hw _ (List.mem_of_getElem? (i := 12) rfl))) (by decide) (t := (.object "com/example/weaverbird/weaverbird/format/DeviceLocale")) (t' := .int) (by decide) (by decide)))
  have c12 : Fld Z h9 a1 "com/example/weaverbird/weaverbird/format/ConfigurationChoice" "highest" "I" (.int (2 : Int32)) := c6.same W9
  have c13 : Exa Z h9 a1 "com/example/weaverbird/weaverbird/format/ConfigurationChoice" := c7.wr W9
  have c14 : Keep h0 h9 [a1] := c8.wr W9 (Or.inl (List.mem_of_getElem? (i := 0) rfl))
  have eq1 : (f1_o1 w_highest_a1) = (2 : Int32) := rfl
  obtain ⟨fs, hr, hrun, hended, hW, hsame⟩ := X9.leave (v := none) (fun _ => rfl)
  refine ⟨_, _, pre0 _ ?_, hrun, hended, _, _, rfl, ?_, ⟨_, rfl⟩, hW, hsame.mono (by decide) (by decide)⟩
  · show Steps p.tables e below (s₁.setTop (mkF m 0 #[.val (.ref a1)] [])) _
    refine XS.aloadN X0.here hx rfl (hb hby d1_0) rfl rfl ?_
    show Steps p.tables e below (s₁.setTop (mkF m 1 #[.val (.ref a1)] [(.ref a1)])) _
    refine st2 _ ?_
    show Steps p.tables e below (T2.setTop (mkF m 4 #[.val (.ref a1)] [])) _
    refine XS.aloadN X2.here hx rfl (hb hby d1_4) rfl rfl ?_
    show Steps p.tables e below (T2.setTop (mkF m 5 #[.val (.ref a1)] [(.ref a1)])) _
    refine XS.aconstNull X2.here hx rfl (hb hby d1_5) ?_
    show Steps p.tables e below (T2.setTop (mkF m 6 #[.val (.ref a1)] [.null, (.ref a1)])) _
    refine st3 _ ?_
    show Steps p.tables e below (T3.setTop (mkF m 9 #[.val (.ref a1)] [])) _
    refine XS.aloadN X3.here hx rfl (hb hby d1_9) rfl rfl ?_
    show Steps p.tables e below (T3.setTop (mkF m 10 #[.val (.ref a1)] [(.ref a1)])) _
    refine XS.iconst X3.here hx rfl (hb hby d1_10) ?_
    show Steps p.tables e below (T3.setTop (mkF m 11 #[.val (.ref a1)] [(.int (2 : Int32)), (.ref a1)])) _
    refine st9 _ ?_
    show Steps p.tables e below (T9.setTop (mkF m 14 #[.val (.ref a1)] [])) _
    exact X9.returnOut hx Bd.returns (hb hby d1_14) hr
  · show Q1 Z a1 w_highest_a1 h0 n0 _ T9.heap _
    rw [e9]
    exact ⟨rfl, N9, c14, c11, (by rw [eq1]; exact c12)⟩
theorem d3_0 : decode prog_37_method_8_code 0 = .ok (.iload_n 2, 1) := by decide +kernel
theorem d3_1 : decode prog_37_method_8_code 1 = .ok (.ifCond .ne 12, 3) := by decide +kernel
theorem d3_4 : decode prog_37_method_8_code 4 = .ok (.aload_n 0, 1) := by decide +kernel
theorem d3_5 : decode prog_37_method_8_code 5 = .ok (.getfield 13, 3) := by decide +kernel
theorem d3_8 : decode prog_37_method_8_code 8 = .ok (.istore 4, 2) := by decide +kernel
theorem d3_10 : decode prog_37_method_8_code 10 = .ok (.goto 16, 3) := by decide +kernel
theorem d3_13 : decode prog_37_method_8_code 13 = .ok (.iload_n 3, 1) := by decide +kernel
theorem d3_14 : decode prog_37_method_8_code 14 = .ok (.ifCond .eq 9, 3) := by decide +kernel
theorem d3_17 : decode prog_37_method_8_code 17 = .ok (.iload_n 1, 1) := by decide +kernel
theorem d3_18 : decode prog_37_method_8_code 18 = .ok (.istore 4, 2) := by decide +kernel
theorem d3_20 : decode prog_37_method_8_code 20 = .ok (.goto 6, 3) := by decide +kernel
theorem d3_23 : decode prog_37_method_8_code 23 = .ok (.iconst 0, 1) := by decide +kernel
theorem d3_24 : decode prog_37_method_8_code 24 = .ok (.istore 4, 2) := by decide +kernel
theorem d3_26 : decode prog_37_method_8_code 26 = .ok (.iload 4, 2) := by decide +kernel
theorem d3_28 : decode prog_37_method_8_code 28 = .ok (.ireturn, 1) := by decide +kernel
theorem ef_3 (m : MethodId) (x0 : Addr) (x1 : Int32) (x2 : Int32) (x3 : Int32) : entryFrame m #[(.ref x0), (.int x1), (.int x2), (.int x3)] 5 = mkF m 0 #[.val (.ref x0), .val (.int x1), .val (.int x2), .val (.int x3), .unset] [] := by first | (simp [entryFrame, mkF, argsToLocals, Value.category]; done) | rfl
def f3 (p2 : Int32) (p3 : Int32) (p4 : Int32) (w_highest_a1 : Int32) : Int32 := (if p3 = (0 : Int32) then w_highest_a1 else (if p4 = (0 : Int32) then (0 : Int32) else p2))
def Q3 (Z : State) (a1 : Addr) (p2 : Int32) (p3 : Int32) (p4 : Int32) (w_highest_a1 : Int32) (h0 : Heap) (n0 : Nat) (v : Option Value) (h : Heap) (L : List Loc) : Prop := v = some (.int (f3 p2 p3 p4 w_highest_a1)) ∧ Fr n0 L ∧ h = h0
set_option maxRecDepth 65536 in
set_option maxHeartbeats 40000000 in
theorem rm3 (l : Launch) (Z : State) (a0 : Array Value) (hw : ∀ d ∈ tables_1, d.before a0 Z = true) (ws : List Jvm.Cond) (a1 : Addr) (p2 : Int32) (p3 : Int32) (p4 : Int32) (w_highest_a1 : Int32) (h0 : Heap) (n0 : Nat) (Z0 : n0 ≤ h0.size) (F_highest_a1 : Fld Z h0 a1 "com/example/weaverbird/weaverbird/format/ConfigurationChoice" "highest" "I" (.int w_highest_a1)) :
    MetFree l (⟨"com/example/weaverbird/weaverbird/format/ConfigurationChoice", "ofEntry", "(IZZ)I"⟩ : MethodName) (head1 (Jvm.Cond.code (⟨"com/example/weaverbird/weaverbird/format/ConfigurationChoice", "ofEntry", "(IZZ)I"⟩ : MethodName) prog_37_method_8_code 5 (some .int) :: ws) ({ frames := 0, cells := 0, slots := 0, locals := 0 } : Room)) (fun a U => a = #[(.ref a1), (.int p2), (.int p3), (.int p4)] ∧ Z.Warmed39 U.vm ∧ U.heap = h0) (fun _ _ _ _ _ => True) (fun _ U o U' => ∃ v L, o = .returned v ∧ Q3 Z a1 p2 p3 p4 w_highest_a1 h0 n0 v U'.heap L ∧ FrameEnd U o U' L ({ frames := 0, cells := 0, slots := 0, locals := 0 } : Room).cells ({ frames := 0, cells := 0, slots := 0, locals := 0 } : Room).slots) := by
  refine MetFree.of_bodySF (plainFor_of_name pn_0) hisR ?_
  intro p e s m args below meth c s₁ Bd hml0 hP hK
  obtain ⟨rfl, hZ, hh⟩ := hP
  have hx := Bd.exec
  have hby := Bd.bytes
  have hml : c.maxLocals = 5 := hml0
  have hown : s.vm.findClass "com/example/weaverbird/weaverbird/format/ConfigurationChoice" = some m.cls := findClass_of_methodNamed Bd.named
  have hnm := (name_of_methodNamed Bd.named Bd.method).1
  have X0 : Stand p l e ({ frames := 0, cells := 0, slots := 0, locals := 0 } : Room) s m #[(.ref a1), (.int p2), (.int p3), (.int p4)] below meth c s₁ [] 0 0 := Stand.of_body Bd
  have e0 : s₁.heap = h0 := by rw [← hh, Bd.state]; rfl
  have N0 := Fr.nil n0
  have pre0 : ∀ t, Steps p.tables e below (s₁.setTop (mkF m 0 #[.val (.ref a1), .val (.int p2), .val (.int p3), .val (.int p4), .unset] [])) t → Steps p.tables e below (s₁.setTop (entryFrame m #[(.ref a1), (.int p2), (.int p3), (.int p4)] 5)) t := fun t k => castTop (ef_3 m a1 p2 p3 p4) k
  have pre1 : ∀ t, Steps p.tables e below (s₁.setTop (mkF m 1 #[.val (.ref a1), .val (.int p2), .val (.int p3), .val (.int p4), .unset] [(.int p3)])) t → Steps p.tables e below (s₁.setTop (entryFrame m #[(.ref a1), (.int p2), (.int p3), (.int p4)] 5)) t := by
    intro t k
    refine pre0 t ?_
    show Steps p.tables e below (s₁.setTop (mkF m 0 #[.val (.ref a1), .val (.int p2), .val (.int p3), .val (.int p4), .unset] [])) _
    refine XS.iloadN X0.here hx rfl (hb hby d3_0) rfl ?_
    exact k
  by_cases hc1 : p3 = (0 : Int32)
  · obtain ⟨T5, X5, e5, st5⟩ := getF X0 hx hZ hown (host := "") (Or.inl (hw _ (List.mem_of_getElem? (i := 11) rfl))) Via.refl e0 F_highest_a1 (g := (mkF m 5 #[.val (.ref a1), .val (.int p2), .val (.int p3), .val (.int p4), .unset] [(.ref a1)])) rfl rfl (hb hby d3_5)
    have eq2 : (f3 p2 p3 p4 w_highest_a1) = w_highest_a1 := by unfold f3; simp only [if_pos hc1]
    obtain ⟨fs, hr, hrun, hended, hW, hsame⟩ := X5.leave (v := some (.int w_highest_a1)) (fun h => by rw [Bd.returns] at h; cases h)
    refine ⟨_, _, pre1 _ ?_, hrun, hended, _, _, rfl, ?_, ⟨_, rfl⟩, hW, hsame.mono (by decide) (by decide)⟩
    · show Steps p.tables e below (s₁.setTop (mkF m 1 #[.val (.ref a1), .val (.int p2), .val (.int p3), .val (.int p4), .unset] [(.int p3)])) _
      refine XS.ifNo X0.here hx rfl (hb hby d3_1) rfl ((if0 _ _).trans (teq hc1).2) ?_
      show Steps p.tables e below (s₁.setTop (mkF m 4 #[.val (.ref a1), .val (.int p2), .val (.int p3), .val (.int p4), .unset] [])) _
      refine XS.aloadN X0.here hx rfl (hb hby d3_4) rfl rfl ?_
      show Steps p.tables e below (s₁.setTop (mkF m 5 #[.val (.ref a1), .val (.int p2), .val (.int p3), .val (.int p4), .unset] [(.ref a1)])) _
      refine st5 _ ?_
      show Steps p.tables e below (T5.setTop (mkF m 8 #[.val (.ref a1), .val (.int p2), .val (.int p3), .val (.int p4), .unset] [(.int w_highest_a1)])) _
      refine XS.istore X5.here hx rfl (hb hby d3_8) rfl (l' := #[.val (.ref a1), .val (.int p2), .val (.int p3), .val (.int p4), .val (.int w_highest_a1)]) rfl ?_
      show Steps p.tables e below (T5.setTop (mkF m 10 #[.val (.ref a1), .val (.int p2), .val (.int p3), .val (.int p4), .val (.int w_highest_a1)] [])) _
      refine XS.goto X5.here hx rfl (pc0 := 10) (pc' := 26) rfl (hb hby d3_10) (by decide) (by decide) ?_
      show Steps p.tables e below (T5.setTop (mkF m 26 #[.val (.ref a1), .val (.int p2), .val (.int p3), .val (.int p4), .val (.int w_highest_a1)] [])) _
      refine XS.iload X5.here hx rfl (hb hby d3_26) rfl ?_
      show Steps p.tables e below (T5.setTop (mkF m 28 #[.val (.ref a1), .val (.int p2), .val (.int p3), .val (.int p4), .val (.int w_highest_a1)] [(.int w_highest_a1)])) _
      exact retI X5 hx Bd.returns (hb hby d3_28) hr
    · show Q3 Z a1 p2 p3 p4 w_highest_a1 h0 n0 _ T5.heap _
      rw [e5]
      exact ⟨by rw [eq2], N0, rfl⟩
  · have pre3 : ∀ t, Steps p.tables e below (s₁.setTop (mkF m 14 #[.val (.ref a1), .val (.int p2), .val (.int p3), .val (.int p4), .unset] [(.int p4)])) t → Steps p.tables e below (s₁.setTop (entryFrame m #[(.ref a1), (.int p2), (.int p3), (.int p4)] 5)) t := by
      intro t k
      refine pre1 t ?_
      show Steps p.tables e below (s₁.setTop (mkF m 1 #[.val (.ref a1), .val (.int p2), .val (.int p3), .val (.int p4), .unset] [(.int p3)])) _
      refine XS.ifYes X0.here hx rfl (pc0 := 1) (pc' := 13) rfl (hb hby d3_1) rfl ((if0 _ _).trans (feq hc1).2) (by decide) (by decide) ?_
      show Steps p.tables e below (s₁.setTop (mkF m 13 #[.val (.ref a1), .val (.int p2), .val (.int p3), .val (.int p4), .unset] [])) _
      refine XS.iloadN X0.here hx rfl (hb hby d3_13) rfl ?_
      exact k
    by_cases hc14 : p4 = (0 : Int32)
    · have eq4 : (f3 p2 p3 p4 w_highest_a1) = (0 : Int32) := by unfold f3; simp only [if_neg hc1, if_pos hc14]
      obtain ⟨fs, hr, hrun, hended, hW, hsame⟩ := X0.leave (v := some (.int (0 : Int32))) (fun h => by rw [Bd.returns] at h; cases h)
      refine ⟨_, _, pre3 _ ?_, hrun, hended, _, _, rfl, ?_, ⟨_, rfl⟩, hW, hsame.mono (by decide) (by decide)⟩
      · show Steps p.tables e below (s₁.setTop (mkF m 14 #[.val (.ref a1), .val (.int p2), .val (.int p3), .val (.int p4), .unset] [(.int p4)])) _
        refine XS.ifYes X0.here hx rfl (pc0 := 14) (pc' := 23) rfl (hb hby d3_14) rfl ((if0 _ _).trans (teq hc14).1) (by decide) (by decide) ?_
        show Steps p.tables e below (s₁.setTop (mkF m 23 #[.val (.ref a1), .val (.int p2), .val (.int p3), .val (.int p4), .unset] [])) _
        refine XS.iconst X0.here hx rfl (hb hby d3_23) ?_
        show Steps p.tables e below (s₁.setTop (mkF m 24 #[.val (.ref a1), .val (.int p2), .val (.int p3), .val (.int p4), .unset] [(.int (0 : Int32))])) _
        refine XS.istore X0.here hx rfl (hb hby d3_24) rfl (l' := #[.val (.ref a1), .val (.int p2), .val (.int p3), .val (.int p4), .val (.int (0 : Int32))]) rfl ?_
        show Steps p.tables e below (s₁.setTop (mkF m 26 #[.val (.ref a1), .val (.int p2), .val (.int p3), .val (.int p4), .val (.int (0 : Int32))] [])) _
        refine XS.iload X0.here hx rfl (hb hby d3_26) rfl ?_
        show Steps p.tables e below (s₁.setTop (mkF m 28 #[.val (.ref a1), .val (.int p2), .val (.int p3), .val (.int p4), .val (.int (0 : Int32))] [(.int (0 : Int32))])) _
        exact retI X0 hx Bd.returns (hb hby d3_28) hr
      · show Q3 Z a1 p2 p3 p4 w_highest_a1 h0 n0 _ s₁.heap _
        rw [e0]
        exact ⟨by rw [eq4], N0, rfl⟩
    · have eq5 : (f3 p2 p3 p4 w_highest_a1) = p2 := by unfold f3; simp only [if_neg hc1, if_neg hc14]
      obtain ⟨fs, hr, hrun, hended, hW, hsame⟩ := X0.leave (v := some (.int p2)) (fun h => by rw [Bd.returns] at h; cases h)
      refine ⟨_, _, pre3 _ ?_, hrun, hended, _, _, rfl, ?_, ⟨_, rfl⟩, hW, hsame.mono (by decide) (by decide)⟩
      · show Steps p.tables e below (s₁.setTop (mkF m 14 #[.val (.ref a1), .val (.int p2), .val (.int p3), .val (.int p4), .unset] [(.int p4)])) _
        refine XS.ifNo X0.here hx rfl (hb hby d3_14) rfl ((if0 _ _).trans (feq hc14).1) ?_
        show Steps p.tables e below (s₁.setTop (mkF m 17 #[.val (.ref a1), .val (.int p2), .val (.int p3), .val (.int p4), .unset] [])) _
        refine XS.iloadN X0.here hx rfl (hb hby d3_17) rfl ?_
        show Steps p.tables e below (s₁.setTop (mkF m 18 #[.val (.ref a1), .val (.int p2), .val (.int p3), .val (.int p4), .unset] [(.int p2)])) _
        refine XS.istore X0.here hx rfl (hb hby d3_18) rfl (l' := #[.val (.ref a1), .val (.int p2), .val (.int p3), .val (.int p4), .val (.int p2)]) rfl ?_
        show Steps p.tables e below (s₁.setTop (mkF m 20 #[.val (.ref a1), .val (.int p2), .val (.int p3), .val (.int p4), .val (.int p2)] [])) _
        refine XS.goto X0.here hx rfl (pc0 := 20) (pc' := 26) rfl (hb hby d3_20) (by decide) (by decide) ?_
        show Steps p.tables e below (s₁.setTop (mkF m 26 #[.val (.ref a1), .val (.int p2), .val (.int p3), .val (.int p4), .val (.int p2)] [])) _
        refine XS.iload X0.here hx rfl (hb hby d3_26) rfl ?_
        show Steps p.tables e below (s₁.setTop (mkF m 28 #[.val (.ref a1), .val (.int p2), .val (.int p3), .val (.int p4), .val (.int p2)] [(.int p2)])) _
        exact retI X0 hx Bd.returns (hb hby d3_28) hr
      · show Q3 Z a1 p2 p3 p4 w_highest_a1 h0 n0 _ s₁.heap _
        rw [e0]
        exact ⟨by rw [eq5], N0, rfl⟩
theorem d4_0 : decode prog_37_method_10_code 0 = .ok (.iload_n 1, 1) := by decide +kernel
theorem d4_1 : decode prog_37_method_10_code 1 = .ok (.aload_n 0, 1) := by decide +kernel
theorem d4_2 : decode prog_37_method_10_code 2 = .ok (.getfield 13, 3) := by decide +kernel
theorem d4_5 : decode prog_37_method_10_code 5 = .ok (.if_icmp .ne 7, 3) := by decide +kernel
theorem d4_8 : decode prog_37_method_10_code 8 = .ok (.iconst 1, 1) := by decide +kernel
theorem d4_9 : decode prog_37_method_10_code 9 = .ok (.goto 4, 3) := by decide +kernel
theorem d4_12 : decode prog_37_method_10_code 12 = .ok (.iconst 0, 1) := by decide +kernel
theorem d4_13 : decode prog_37_method_10_code 13 = .ok (.ireturn, 1) := by decide +kernel
theorem ef_4 (m : MethodId) (x0 : Addr) (x1 : Int32) : entryFrame m #[(.ref x0), (.int x1)] 2 = mkF m 0 #[.val (.ref x0), .val (.int x1)] [] := by first | (simp [entryFrame, mkF, argsToLocals, Value.category]; done) | rfl
def f4 (p2 : Int32) (w_highest_a1 : Int32) : Int32 := (if p2 = w_highest_a1 then (1 : Int32) else (0 : Int32))
def Q4 (Z : State) (a1 : Addr) (p2 : Int32) (w_highest_a1 : Int32) (h0 : Heap) (n0 : Nat) (v : Option Value) (h : Heap) (L : List Loc) : Prop := v = some (.int (f4 p2 w_highest_a1)) ∧ Fr n0 L ∧ h = h0
set_option maxRecDepth 65536 in
set_option maxHeartbeats 40000000 in
theorem rm4 (l : Launch) (Z : State) (a0 : Array Value) (hw : ∀ d ∈ tables_1, d.before a0 Z = true) (ws : List Jvm.Cond) (a1 : Addr) (p2 : Int32) (w_highest_a1 : Int32) (h0 : Heap) (n0 : Nat) (Z0 : n0 ≤ h0.size) (F_highest_a1 : Fld Z h0 a1 "com/example/weaverbird/weaverbird/format/ConfigurationChoice" "highest" "I" (.int w_highest_a1)) :
    MetFree l (⟨"com/example/weaverbird/weaverbird/format/ConfigurationChoice", "isSettled", "(I)Z"⟩ : MethodName) (head1 (Jvm.Cond.code (⟨"com/example/weaverbird/weaverbird/format/ConfigurationChoice", "isSettled", "(I)Z"⟩ : MethodName) prog_37_method_10_code 2 (some .boolean) :: ws) ({ frames := 0, cells := 0, slots := 0, locals := 0 } : Room)) (fun a U => a = #[(.ref a1), (.int p2)] ∧ Z.Warmed39 U.vm ∧ U.heap = h0) (fun _ _ _ _ _ => True) (fun _ U o U' => ∃ v L, o = .returned v ∧ Q4 Z a1 p2 w_highest_a1 h0 n0 v U'.heap L ∧ FrameEnd U o U' L ({ frames := 0, cells := 0, slots := 0, locals := 0 } : Room).cells ({ frames := 0, cells := 0, slots := 0, locals := 0 } : Room).slots) := by
  refine MetFree.of_bodySF (plainFor_of_name pn_0) hisR ?_
  intro p e s m args below meth c s₁ Bd hml0 hP hK
  obtain ⟨rfl, hZ, hh⟩ := hP
  have hx := Bd.exec
  have hby := Bd.bytes
  have hml : c.maxLocals = 2 := hml0
  have hown : s.vm.findClass "com/example/weaverbird/weaverbird/format/ConfigurationChoice" = some m.cls := findClass_of_methodNamed Bd.named
  have hnm := (name_of_methodNamed Bd.named Bd.method).1
  have X0 : Stand p l e ({ frames := 0, cells := 0, slots := 0, locals := 0 } : Room) s m #[(.ref a1), (.int p2)] below meth c s₁ [] 0 0 := Stand.of_body Bd
  have e0 : s₁.heap = h0 := by rw [← hh, Bd.state]; rfl
  have N0 := Fr.nil n0
  have pre0 : ∀ t, Steps p.tables e below (s₁.setTop (mkF m 0 #[.val (.ref a1), .val (.int p2)] [])) t → Steps p.tables e below (s₁.setTop (entryFrame m #[(.ref a1), (.int p2)] 2)) t := fun t k => castTop (ef_4 m a1 p2) k
  obtain ⟨T3, X3, e3, st3⟩ := getF X0 hx hZ hown (host := "") (Or.inl (hw _ (List.mem_of_getElem? (i := 11) rfl))) Via.refl e0 F_highest_a1 (g := (mkF m 2 #[.val (.ref a1), .val (.int p2)] [(.ref a1), (.int p2)])) rfl rfl (hb hby d4_2)
  have pre1 : ∀ t, Steps p.tables e below (T3.setTop (mkF m 5 #[.val (.ref a1), .val (.int p2)] [(.int w_highest_a1), (.int p2)])) t → Steps p.tables e below (s₁.setTop (entryFrame m #[(.ref a1), (.int p2)] 2)) t := by
    intro t k
    refine pre0 t ?_
    show Steps p.tables e below (s₁.setTop (mkF m 0 #[.val (.ref a1), .val (.int p2)] [])) _
    refine XS.iloadN X0.here hx rfl (hb hby d4_0) rfl ?_
    show Steps p.tables e below (s₁.setTop (mkF m 1 #[.val (.ref a1), .val (.int p2)] [(.int p2)])) _
    refine XS.aloadN X0.here hx rfl (hb hby d4_1) rfl rfl ?_
    show Steps p.tables e below (s₁.setTop (mkF m 2 #[.val (.ref a1), .val (.int p2)] [(.ref a1), (.int p2)])) _
    refine st3 _ ?_
    exact k
  by_cases hc5 : p2 = w_highest_a1
  · have eq2 : (f4 p2 w_highest_a1) = (1 : Int32) := by unfold f4; simp only [if_pos hc5]
    obtain ⟨fs, hr, hrun, hended, hW, hsame⟩ := X3.leave (v := some (.int (1 : Int32))) (fun h => by rw [Bd.returns] at h; cases h)
    refine ⟨_, _, pre1 _ ?_, hrun, hended, _, _, rfl, ?_, ⟨_, rfl⟩, hW, hsame.mono (by decide) (by decide)⟩
    · show Steps p.tables e below (T3.setTop (mkF m 5 #[.val (.ref a1), .val (.int p2)] [(.int w_highest_a1), (.int p2)])) _
      refine XS.icmpNo X3.here hx rfl (hb hby d4_5) rfl (teq hc5).2 ?_
      show Steps p.tables e below (T3.setTop (mkF m 8 #[.val (.ref a1), .val (.int p2)] [])) _
      refine XS.iconst X3.here hx rfl (hb hby d4_8) ?_
      show Steps p.tables e below (T3.setTop (mkF m 9 #[.val (.ref a1), .val (.int p2)] [(.int (1 : Int32))])) _
      refine XS.goto X3.here hx rfl (pc0 := 9) (pc' := 13) rfl (hb hby d4_9) (by decide) (by decide) ?_
      show Steps p.tables e below (T3.setTop (mkF m 13 #[.val (.ref a1), .val (.int p2)] [(.int (1 : Int32))])) _
      exact retN X3 hx (t := .boolean) Bd.returns (by simp) (hb hby d4_13) hr
    · show Q4 Z a1 p2 w_highest_a1 h0 n0 _ T3.heap _
      rw [e3]
      exact ⟨by rw [eq2], N0, rfl⟩
  · have eq3 : (f4 p2 w_highest_a1) = (0 : Int32) := by unfold f4; simp only [if_neg hc5]
    obtain ⟨fs, hr, hrun, hended, hW, hsame⟩ := X3.leave (v := some (.int (0 : Int32))) (fun h => by rw [Bd.returns] at h; cases h)
    refine ⟨_, _, pre1 _ ?_, hrun, hended, _, _, rfl, ?_, ⟨_, rfl⟩, hW, hsame.mono (by decide) (by decide)⟩
    · show Steps p.tables e below (T3.setTop (mkF m 5 #[.val (.ref a1), .val (.int p2)] [(.int w_highest_a1), (.int p2)])) _
      refine XS.icmpYes X3.here hx rfl (pc0 := 5) (pc' := 12) rfl (hb hby d4_5) rfl (feq hc5).2 (by decide) (by decide) ?_
      show Steps p.tables e below (T3.setTop (mkF m 12 #[.val (.ref a1), .val (.int p2)] [])) _
      refine XS.iconst X3.here hx rfl (hb hby d4_12) ?_
      show Steps p.tables e below (T3.setTop (mkF m 13 #[.val (.ref a1), .val (.int p2)] [(.int (0 : Int32))])) _
      exact retN X3 hx (t := .boolean) Bd.returns (by simp) (hb hby d4_13) hr
    · show Q4 Z a1 p2 w_highest_a1 h0 n0 _ T3.heap _
      rw [e3]
      exact ⟨by rw [eq3], N0, rfl⟩
theorem pd_0 : parseMethodDescriptor "()V" = some ⟨[], none⟩ := by decide +kernel
theorem pd_1 : parseMethodDescriptor "(IZZ)I" = some ⟨[.int, .boolean, .boolean], some .int⟩ := by decide +kernel
theorem pd_2 : parseMethodDescriptor "(I)Z" = some ⟨[.int], some .boolean⟩ := by decide +kernel
theorem pn_1 : plainName "com/example/weaverbird/weaverbird/format/ConfigurationChoiceOfEntryPinLaw" = true := by first | (simp [plainName, overriddenIn]; done) | decide +kernel
theorem ef_0 (m : MethodId) (x0 : Int32) (x1 : Int32) : entryFrame m #[(.int x0), (.int x1)] maxLocals = mkF m 0 #[.val (.int x0), .val (.int x1), .unset, .unset, .unset, .unset, .unset] [] := by first | (simp [entryFrame, mkF, argsToLocals, Value.category, maxLocals]; done) | rfl
def f0_s0_11 (p1 : Int32) (p2 : Int32) : Int32 := (if (p2 &&& (1 : Int32)) = (0 : Int32) then (0 : Int32) else (1 : Int32))
def f0_s0_23 (p1 : Int32) (p2 : Int32) : Int32 := (if (p2 &&& (2 : Int32)) = (0 : Int32) then (0 : Int32) else (1 : Int32))
def f0_s0_68 (p1 : Int32) (p2 : Int32) : Int32 := (if (f3 p1 (f0_s0_11 p1 p2) (f0_s0_23 p1 p2) (f1_o1 (0 : Int32))) = (2 : Int32) then (if (f4 (f3 p1 (f0_s0_11 p1 p2) (f0_s0_23 p1 p2) (f1_o1 (0 : Int32))) (f1_o1 (0 : Int32))) = (0 : Int32) then (0 : Int32) else (1 : Int32)) else (0 : Int32))
def f0_s0_87 (p1 : Int32) (p2 : Int32) : Int32 := (if (f3 p1 (f0_s0_11 p1 p2) (f0_s0_23 p1 p2) (f1_o1 (0 : Int32))) = (0 : Int32) then (1 : Int32) else (0 : Int32))
def f0_s0_103 (p1 : Int32) (p2 : Int32) : Int32 := (if (f3 p1 (f0_s0_11 p1 p2) (f0_s0_23 p1 p2) (f1_o1 (0 : Int32))) = p1 then (1 : Int32) else (0 : Int32))
def f0 (p1 : Int32) (p2 : Int32) : Int32 := (if (f0_s0_11 p1 p2) = (0 : Int32) then (nar .boolean (f0_s0_68 p1 p2)) else (if (f0_s0_23 p1 p2) = (0 : Int32) then (nar .boolean (f0_s0_87 p1 p2)) else (nar .boolean (f0_s0_103 p1 p2))))
def Q0 (Z : State) (p1 : Int32) (p2 : Int32) (h0 : Heap) (n0 : Nat) (v : Option Value) (h : Heap) (L : List Loc) : Prop := v = some (.int (f0 p1 p2)) ∧ Fr n0 L ∧ True
set_option maxRecDepth 65536 in
set_option maxHeartbeats 40000000 in
theorem rm0 (l : Launch) (Z : State) (a0 : Array Value) (hw : ∀ d ∈ tables_1, d.before a0 Z = true) (ws : List Jvm.Cond) (p1 : Int32) (p2 : Int32) (h0 : Heap) (n0 : Nat) (Z0 : n0 ≤ h0.size) :
    MetFree l x (head1 (Jvm.Cond.code x code maxLocals ret :: ws) room_1) (fun a U => a = #[(.int p1), (.int p2)] ∧ Z.Warmed39 U.vm ∧ U.heap = h0) (fun _ _ _ _ _ => True) (fun _ U o U' => ∃ v L, o = .returned v ∧ Q0 Z p1 p2 h0 n0 v U'.heap L ∧ FrameEnd U o U' L room_1.cells room_1.slots) := by
  refine MetFree.of_bodySF (plainFor_of_name pn_1) hisR ?_
  intro p e s m args below meth c s₁ Bd hml0 hP hK
  obtain ⟨rfl, hZ, hh⟩ := hP
  have hx := Bd.exec
  have hby := Bd.bytes
  have hml : c.maxLocals = 7 := hml0
  have hown : s.vm.findClass "com/example/weaverbird/weaverbird/format/ConfigurationChoiceOfEntryPinLaw" = some m.cls := findClass_of_methodNamed Bd.named
  have hnm := (name_of_methodNamed Bd.named Bd.method).1
  have X0 : Stand p l e room_1 s m #[(.int p1), (.int p2)] below meth c s₁ [] 0 0 := Stand.of_body Bd
  have e0 : s₁.heap = h0 := by rw [← hh, Bd.state]; rfl
  have N0 := Fr.nil n0
  have pre0 : ∀ t, Steps p.tables e below (s₁.setTop (mkF m 0 #[.val (.int p1), .val (.int p2), .unset, .unset, .unset, .unset, .unset] [])) t → Steps p.tables e below (s₁.setTop (entryFrame m #[(.int p1), (.int p2)] maxLocals)) t := fun t k => castTop (ef_0 m p1 p2) k
  have pre1 : ∀ t, Steps p.tables e below (s₁.setTop (mkF m 3 #[.val (.int p1), .val (.int p2), .unset, .unset, .unset, .unset, .unset] [(.int (p2 &&& (1 : Int32)))])) t → Steps p.tables e below (s₁.setTop (entryFrame m #[(.int p1), (.int p2)] maxLocals)) t := by
    intro t k
    refine pre0 t ?_
    show Steps p.tables e below (s₁.setTop (mkF m 0 #[.val (.int p1), .val (.int p2), .unset, .unset, .unset, .unset, .unset] [])) _
    refine XS.iloadN X0.here hx rfl (hb hby at_0) rfl ?_
    show Steps p.tables e below (s₁.setTop (mkF m 1 #[.val (.int p1), .val (.int p2), .unset, .unset, .unset, .unset, .unset] [(.int p2)])) _
    refine XS.iconst X0.here hx rfl (hb hby at_1) ?_
    show Steps p.tables e below (s₁.setTop (mkF m 2 #[.val (.int p1), .val (.int p2), .unset, .unset, .unset, .unset, .unset] [(.int (1 : Int32)), (.int p2)])) _
    refine XS.iand X0.here hx rfl (hb hby at_2) rfl ?_
    exact k
  have pre2 : ∀ t, Steps p.tables e below (s₁.setTop (mkF m 11 #[.val (.int p1), .val (.int p2), .unset, .unset, .unset, .unset, .unset] [(.int (f0_s0_11 p1 p2))])) t → Steps p.tables e below (s₁.setTop (entryFrame m #[(.int p1), (.int p2)] maxLocals)) t := by
    intro t k
    by_cases hc3 : (p2 &&& (1 : Int32)) = (0 : Int32)
    · have eq3 := (show (f0_s0_11 p1 p2) = (0 : Int32) from by unfold f0_s0_11; simp only [if_pos hc3])
      try rw [eq3] at k
      refine pre1 t ?_
      show Steps p.tables e below (s₁.setTop (mkF m 3 #[.val (.int p1), .val (.int p2), .unset, .unset, .unset, .unset, .unset] [(.int (p2 &&& (1 : Int32)))])) _
      refine XS.ifYes X0.here hx rfl (pc0 := 3) (pc' := 10) rfl (hb hby at_3) rfl ((if0 _ _).trans (teq hc3).1) (by decide) (by decide) ?_
      show Steps p.tables e below (s₁.setTop (mkF m 10 #[.val (.int p1), .val (.int p2), .unset, .unset, .unset, .unset, .unset] [])) _
      refine XS.iconst X0.here hx rfl (hb hby at_10) ?_
      exact k
    · have eq4 := (show (f0_s0_11 p1 p2) = (1 : Int32) from by unfold f0_s0_11; simp only [if_neg hc3])
      try rw [eq4] at k
      refine pre1 t ?_
      show Steps p.tables e below (s₁.setTop (mkF m 3 #[.val (.int p1), .val (.int p2), .unset, .unset, .unset, .unset, .unset] [(.int (p2 &&& (1 : Int32)))])) _
      refine XS.ifNo X0.here hx rfl (hb hby at_3) rfl ((if0 _ _).trans (feq hc3).1) ?_
      show Steps p.tables e below (s₁.setTop (mkF m 6 #[.val (.int p1), .val (.int p2), .unset, .unset, .unset, .unset, .unset] [])) _
      refine XS.iconst X0.here hx rfl (hb hby at_6) ?_
      show Steps p.tables e below (s₁.setTop (mkF m 7 #[.val (.int p1), .val (.int p2), .unset, .unset, .unset, .unset, .unset] [(.int (1 : Int32))])) _
      refine XS.goto X0.here hx rfl (pc0 := 7) (pc' := 11) rfl (hb hby at_7) (by decide) (by decide) ?_
      exact k
  have pre5 : ∀ t, Steps p.tables e below (s₁.setTop (mkF m 15 #[.val (.int p1), .val (.int p2), .val (.int (f0_s0_11 p1 p2)), .unset, .unset, .unset, .unset] [(.int (p2 &&& (2 : Int32)))])) t → Steps p.tables e below (s₁.setTop (entryFrame m #[(.int p1), (.int p2)] maxLocals)) t := by
    intro t k
    refine pre2 t ?_
    show Steps p.tables e below (s₁.setTop (mkF m 11 #[.val (.int p1), .val (.int p2), .unset, .unset, .unset, .unset, .unset] [(.int (f0_s0_11 p1 p2))])) _
    refine XS.istoreN X0.here hx rfl (hb hby at_11) rfl (l' := #[.val (.int p1), .val (.int p2), .val (.int (f0_s0_11 p1 p2)), .unset, .unset, .unset, .unset]) rfl ?_
    show Steps p.tables e below (s₁.setTop (mkF m 12 #[.val (.int p1), .val (.int p2), .val (.int (f0_s0_11 p1 p2)), .unset, .unset, .unset, .unset] [])) _
    refine XS.iloadN X0.here hx rfl (hb hby at_12) rfl ?_
    show Steps p.tables e below (s₁.setTop (mkF m 13 #[.val (.int p1), .val (.int p2), .val (.int (f0_s0_11 p1 p2)), .unset, .unset, .unset, .unset] [(.int p2)])) _
    refine XS.iconst X0.here hx rfl (hb hby at_13) ?_
    show Steps p.tables e below (s₁.setTop (mkF m 14 #[.val (.int p1), .val (.int p2), .val (.int (f0_s0_11 p1 p2)), .unset, .unset, .unset, .unset] [(.int (2 : Int32)), (.int p2)])) _
    refine XS.iand X0.here hx rfl (hb hby at_14) rfl ?_
    exact k
  have pre6 : ∀ t, Steps p.tables e below (s₁.setTop (mkF m 23 #[.val (.int p1), .val (.int p2), .val (.int (f0_s0_11 p1 p2)), .unset, .unset, .unset, .unset] [(.int (f0_s0_23 p1 p2))])) t → Steps p.tables e below (s₁.setTop (entryFrame m #[(.int p1), (.int p2)] maxLocals)) t := by
    intro t k
    by_cases hc15 : (p2 &&& (2 : Int32)) = (0 : Int32)
    · have eq7 := (show (f0_s0_23 p1 p2) = (0 : Int32) from by unfold f0_s0_23; simp only [if_pos hc15])
      try rw [eq7] at k
      refine pre5 t ?_
      show Steps p.tables e below (s₁.setTop (mkF m 15 #[.val (.int p1), .val (.int p2), .val (.int (f0_s0_11 p1 p2)), .unset, .unset, .unset, .unset] [(.int (p2 &&& (2 : Int32)))])) _
      refine XS.ifYes X0.here hx rfl (pc0 := 15) (pc' := 22) rfl (hb hby at_15) rfl ((if0 _ _).trans (teq hc15).1) (by decide) (by decide) ?_
      show Steps p.tables e below (s₁.setTop (mkF m 22 #[.val (.int p1), .val (.int p2), .val (.int (f0_s0_11 p1 p2)), .unset, .unset, .unset, .unset] [])) _
      refine XS.iconst X0.here hx rfl (hb hby at_22) ?_
      exact k
    · have eq8 := (show (f0_s0_23 p1 p2) = (1 : Int32) from by unfold f0_s0_23; simp only [if_neg hc15])
      try rw [eq8] at k
      refine pre5 t ?_
      show Steps p.tables e below (s₁.setTop (mkF m 15 #[.val (.int p1), .val (.int p2), .val (.int (f0_s0_11 p1 p2)), .unset, .unset, .unset, .unset] [(.int (p2 &&& (2 : Int32)))])) _
      refine XS.ifNo X0.here hx rfl (hb hby at_15) rfl ((if0 _ _).trans (feq hc15).1) ?_
      show Steps p.tables e below (s₁.setTop (mkF m 18 #[.val (.int p1), .val (.int p2), .val (.int (f0_s0_11 p1 p2)), .unset, .unset, .unset, .unset] [])) _
      refine XS.iconst X0.here hx rfl (hb hby at_18) ?_
      show Steps p.tables e below (s₁.setTop (mkF m 19 #[.val (.int p1), .val (.int p2), .val (.int (f0_s0_11 p1 p2)), .unset, .unset, .unset, .unset] [(.int (1 : Int32))])) _
      refine XS.goto X0.here hx rfl (pc0 := 19) (pc' := 23) rfl (hb hby at_19) (by decide) (by decide) ?_
      exact k
  obtain ⟨T3, h3, X3, e3, E3, A3, D3, -, st3⟩ := newO X0 hx hZ hown (hw _ (List.mem_of_getElem? (i := 0) rfl)) (hw _ (List.mem_of_getElem? (i := 1) rfl)) (hw _ (List.mem_of_getElem? (i := 2) rfl)) e0 (g := (mkF m 24 #[.val (.int p1), .val (.int p2), .val (.int (f0_s0_11 p1 p2)), .val (.int (f0_s0_23 p1 p2)), .unset, .unset, .unset] [])) rfl (hb hby at_24) (by decide) (by decide)
  obtain ⟨b3, g3⟩ : ∃ z, z = h0.size := ⟨_, rfl⟩
  rw [← g3] at A3 D3 st3
  have g_b3 : n0 ≤ b3 := Nat.le_trans Z0 (Nat.le_of_eq g3.symm)
  have c4 : n0 ≤ h3.size := Nat.le_trans Z0 E3.1
  have c5 : Fld Z h3 b3 "com/example/weaverbird/weaverbird/format/ConfigurationChoice" "locale" "Lcom/example/weaverbird/weaverbird/format/DeviceLocale;" .null := D3 (Or.inr (hw _ (List.mem_of_getElem? (i := 10) rfl))) (ty := (.object "com/example/weaverbird/weaverbird/format/DeviceLocale")) (by decide)
  have c6 : Fld Z h3 b3 "com/example/weaverbird/weaverbird/format/ConfigurationChoice" "highest" "I" (.int (0 : Int32)) := D3 (Or.inr (hw _ (List.mem_of_getElem? (i := 12) rfl))) (ty := .int) (by decide)
  obtain ⟨_, _, ⟨T7, L7, k7, n7⟩, -, X7, ⟨Lc7, hQ7, l7, y7, z7⟩, st7⟩ := X3.specialBack hx (y := (⟨"com/example/weaverbird/weaverbird/format/ConfigurationChoice", "<init>", "()V"⟩ : MethodName)) rfl hown (mvT hZ (hw _ (List.mem_of_getElem? (i := 3) rfl))) (mvT hZ (hw _ (List.mem_of_getElem? (i := 4) rfl))) (mvT hZ (hw _ (List.mem_of_getElem? (i := 5) rfl))) (by decide) (backOf (W := 1) (rm1 l Z a0 hw [] b3 (0 : Int32) h3 n0 c4 c5 c6 A3 g_b3) hZ (hw _ (List.mem_of_getElem? (i := 5) rfl)) (hw _ (List.mem_of_getElem? (i := 2) rfl)) (by decide) (by decide)) (g := (mkF m 28 #[.val (.int p1), .val (.int p2), .val (.int (f0_s0_11 p1 p2)), .val (.int (f0_s0_23 p1 p2)), .unset, .unset, .unset] [(.ref b3), (.ref b3)])) rfl (by rw [hml]; rfl) (Steps.refl _) (a := b3) (argsL := []) (rest := [(.ref b3)]) (lenOf pd_0 rfl) rfl (by show 2 * 0 + _ ≤ _; exact Nat.le_of_eq rfl) (hb hby at_28) (fun _ _ => ⟨rfl, e3, (by decide : 1 + 0 ≤ _), (by decide : 2 + 0 ≤ _)⟩)
  dsimp only [Pt.U, Pt.locs, Pt.cells, Pt.slots] at X7 l7 y7 z7 st7 hQ7
  subst l7 y7 z7
  obtain ⟨rfl, N7q, K7, o7_0, o7_1⟩ := hQ7
  have N7 := Fr.app N0 N7q
  have c8 : n0 ≤ T7.heap.size := Nat.le_trans c4 K7.1
  have c9 : Exa Z T7.heap b3 "com/example/weaverbird/weaverbird/format/ConfigurationChoice" := A3.keep K7
  have c10 : Fld Z T7.heap b3 "com/example/weaverbird/weaverbird/format/ConfigurationChoice" "locale" "Lcom/example/weaverbird/weaverbird/format/DeviceLocale;" .null := o7_0
  have c11 : Fld Z T7.heap b3 "com/example/weaverbird/weaverbird/format/ConfigurationChoice" "highest" "I" (.int (f1_o1 (0 : Int32))) := o7_1
  obtain ⟨cq12, kq12, q12a, q12b, q12c⟩ := isOf hZ rfl c9
  obtain ⟨_, _, ⟨T12, L12, k12, n12⟩, -, X12, ⟨Lc12, hQ12, l12, y12, z12⟩, st12⟩ := X7.virtualBack hx (y := (⟨"com/example/weaverbird/weaverbird/format/ConfigurationChoice", "ofEntry", "(IZZ)I"⟩ : MethodName)) (z := (⟨"com/example/weaverbird/weaverbird/format/ConfigurationChoice", "ofEntry", "(IZZ)I"⟩ : MethodName)) hown (mvT hZ (hw _ (List.mem_of_getElem? (i := 13) rfl))) (mvT hZ (hw _ (List.mem_of_getElem? (i := 14) rfl))) (notFace_of_selects (args := #[]) (mvT hZ (hw _ (List.mem_of_getElem? (i := 16) rfl)))) (mvT hZ (hw _ (List.mem_of_getElem? (i := 16) rfl))) (mvT hZ (hw _ (List.mem_of_getElem? (i := 15) rfl))) (by decide) (backOf (W := 0) (rm3 l Z a0 hw [] b3 p1 (f0_s0_11 p1 p2) (f0_s0_23 p1 p2) (f1_o1 (0 : Int32)) T7.heap n0 c8 c11) hZ (hw _ (List.mem_of_getElem? (i := 17) rfl)) (hw _ (List.mem_of_getElem? (i := 2) rfl)) (by decide) (by decide)) q12a q12c (g := (mkF m 38 #[.val (.int p1), .val (.int p2), .val (.int (f0_s0_11 p1 p2)), .val (.int (f0_s0_23 p1 p2)), .val (.ref b3), .unset, .unset] [(.int (f0_s0_23 p1 p2)), (.int (f0_s0_11 p1 p2)), (.int p1), (.ref b3)])) rfl (by rw [hml]; rfl) (Steps.refl _) (argsL := [(.int p1), (.int (f0_s0_11 p1 p2)), (.int (f0_s0_23 p1 p2))]) (rest := []) (lenOf pd_1 rfl) rfl (by show 2 * 0 + _ ≤ _; exact Nat.le_of_eq rfl) (hb hby at_38) (fun _ _ => ⟨rfl, rfl, (by decide : 1 + 0 ≤ _), (by decide : 2 + 0 ≤ _)⟩)
  dsimp only [Pt.U, Pt.locs, Pt.cells, Pt.slots] at X12 l12 y12 z12 st12 hQ12
  subst l12 y12 z12
  obtain ⟨rfl, N12q, e12⟩ := hQ12
  have N12 := Fr.app N7 N12q
  have pre9 : ∀ t, Steps p.tables e below (T12.setTop (mkF m 44 #[.val (.int p1), .val (.int p2), .val (.int (f0_s0_11 p1 p2)), .val (.int (f0_s0_23 p1 p2)), .val (.ref b3), .val (.int (f3 p1 (f0_s0_11 p1 p2) (f0_s0_23 p1 p2) (f1_o1 (0 : Int32)))), .unset] [(.int (f0_s0_11 p1 p2))])) t → Steps p.tables e below (s₁.setTop (entryFrame m #[(.int p1), (.int p2)] maxLocals)) t := by
    intro t k
    refine pre6 t ?_
    show Steps p.tables e below (s₁.setTop (mkF m 23 #[.val (.int p1), .val (.int p2), .val (.int (f0_s0_11 p1 p2)), .unset, .unset, .unset, .unset] [(.int (f0_s0_23 p1 p2))])) _
    refine XS.istoreN X0.here hx rfl (hb hby at_23) rfl (l' := #[.val (.int p1), .val (.int p2), .val (.int (f0_s0_11 p1 p2)), .val (.int (f0_s0_23 p1 p2)), .unset, .unset, .unset]) rfl ?_
    show Steps p.tables e below (s₁.setTop (mkF m 24 #[.val (.int p1), .val (.int p2), .val (.int (f0_s0_11 p1 p2)), .val (.int (f0_s0_23 p1 p2)), .unset, .unset, .unset] [])) _
    refine st3 _ ?_
    show Steps p.tables e below (T3.setTop (mkF m 27 #[.val (.int p1), .val (.int p2), .val (.int (f0_s0_11 p1 p2)), .val (.int (f0_s0_23 p1 p2)), .unset, .unset, .unset] [(.ref b3)])) _
    refine XS.dup X3.here hx rfl (hb hby at_27) rfl rfl ?_
    show Steps p.tables e below (T3.setTop (mkF m 28 #[.val (.int p1), .val (.int p2), .val (.int (f0_s0_11 p1 p2)), .val (.int (f0_s0_23 p1 p2)), .unset, .unset, .unset] [(.ref b3), (.ref b3)])) _
    refine st7.trans ?_
    show Steps p.tables e below (T7.setTop (mkF m 31 #[.val (.int p1), .val (.int p2), .val (.int (f0_s0_11 p1 p2)), .val (.int (f0_s0_23 p1 p2)), .unset, .unset, .unset] [(.ref b3)])) _
    refine XS.astore X7.here hx rfl (hb hby at_31) rfl rfl (l' := #[.val (.int p1), .val (.int p2), .val (.int (f0_s0_11 p1 p2)), .val (.int (f0_s0_23 p1 p2)), .val (.ref b3), .unset, .unset]) rfl ?_
    show Steps p.tables e below (T7.setTop (mkF m 33 #[.val (.int p1), .val (.int p2), .val (.int (f0_s0_11 p1 p2)), .val (.int (f0_s0_23 p1 p2)), .val (.ref b3), .unset, .unset] [])) _
    refine XS.aload X7.here hx rfl (hb hby at_33) rfl rfl ?_
    show Steps p.tables e below (T7.setTop (mkF m 35 #[.val (.int p1), .val (.int p2), .val (.int (f0_s0_11 p1 p2)), .val (.int (f0_s0_23 p1 p2)), .val (.ref b3), .unset, .unset] [(.ref b3)])) _
    refine XS.iloadN X7.here hx rfl (hb hby at_35) rfl ?_
    show Steps p.tables e below (T7.setTop (mkF m 36 #[.val (.int p1), .val (.int p2), .val (.int (f0_s0_11 p1 p2)), .val (.int (f0_s0_23 p1 p2)), .val (.ref b3), .unset, .unset] [(.int p1), (.ref b3)])) _
    refine XS.iloadN X7.here hx rfl (hb hby at_36) rfl ?_
    show Steps p.tables e below (T7.setTop (mkF m 37 #[.val (.int p1), .val (.int p2), .val (.int (f0_s0_11 p1 p2)), .val (.int (f0_s0_23 p1 p2)), .val (.ref b3), .unset, .unset] [(.int (f0_s0_11 p1 p2)), (.int p1), (.ref b3)])) _
    refine XS.iloadN X7.here hx rfl (hb hby at_37) rfl ?_
    show Steps p.tables e below (T7.setTop (mkF m 38 #[.val (.int p1), .val (.int p2), .val (.int (f0_s0_11 p1 p2)), .val (.int (f0_s0_23 p1 p2)), .val (.ref b3), .unset, .unset] [(.int (f0_s0_23 p1 p2)), (.int (f0_s0_11 p1 p2)), (.int p1), (.ref b3)])) _
    refine st12.trans ?_
    show Steps p.tables e below (T12.setTop (mkF m 41 #[.val (.int p1), .val (.int p2), .val (.int (f0_s0_11 p1 p2)), .val (.int (f0_s0_23 p1 p2)), .val (.ref b3), .unset, .unset] [(.int (f3 p1 (f0_s0_11 p1 p2) (f0_s0_23 p1 p2) (f1_o1 (0 : Int32))))])) _
    refine XS.istore X12.here hx rfl (hb hby at_41) rfl (l' := #[.val (.int p1), .val (.int p2), .val (.int (f0_s0_11 p1 p2)), .val (.int (f0_s0_23 p1 p2)), .val (.ref b3), .val (.int (f3 p1 (f0_s0_11 p1 p2) (f0_s0_23 p1 p2) (f1_o1 (0 : Int32)))), .unset]) rfl ?_
    show Steps p.tables e below (T12.setTop (mkF m 43 #[.val (.int p1), .val (.int p2), .val (.int (f0_s0_11 p1 p2)), .val (.int (f0_s0_23 p1 p2)), .val (.ref b3), .val (.int (f3 p1 (f0_s0_11 p1 p2) (f0_s0_23 p1 p2) (f1_o1 (0 : Int32)))), .unset] [])) _
    refine XS.iloadN X12.here hx rfl (hb hby at_43) rfl ?_
    exact k
  by_cases hc44 : (f0_s0_11 p1 p2) = (0 : Int32)
  · have pre10 : ∀ t, Steps p.tables e below (T12.setTop (mkF m 50 #[.val (.int p1), .val (.int p2), .val (.int (f0_s0_11 p1 p2)), .val (.int (f0_s0_23 p1 p2)), .val (.ref b3), .val (.int (f3 p1 (f0_s0_11 p1 p2) (f0_s0_23 p1 p2) (f1_o1 (0 : Int32)))), .unset] [(.int (2 : Int32)), (.int (f3 p1 (f0_s0_11 p1 p2) (f0_s0_23 p1 p2) (f1_o1 (0 : Int32))))])) t → Steps p.tables e below (s₁.setTop (entryFrame m #[(.int p1), (.int p2)] maxLocals)) t := by
      intro t k
      refine pre9 t ?_
      show Steps p.tables e below (T12.setTop (mkF m 44 #[.val (.int p1), .val (.int p2), .val (.int (f0_s0_11 p1 p2)), .val (.int (f0_s0_23 p1 p2)), .val (.ref b3), .val (.int (f3 p1 (f0_s0_11 p1 p2) (f0_s0_23 p1 p2) (f1_o1 (0 : Int32)))), .unset] [(.int (f0_s0_11 p1 p2))])) _
      refine XS.ifNo X12.here hx rfl (hb hby at_44) rfl ((if0 _ _).trans (teq hc44).2) ?_
      show Steps p.tables e below (T12.setTop (mkF m 47 #[.val (.int p1), .val (.int p2), .val (.int (f0_s0_11 p1 p2)), .val (.int (f0_s0_23 p1 p2)), .val (.ref b3), .val (.int (f3 p1 (f0_s0_11 p1 p2) (f0_s0_23 p1 p2) (f1_o1 (0 : Int32)))), .unset] [])) _
      refine XS.iload X12.here hx rfl (hb hby at_47) rfl ?_
      show Steps p.tables e below (T12.setTop (mkF m 49 #[.val (.int p1), .val (.int p2), .val (.int (f0_s0_11 p1 p2)), .val (.int (f0_s0_23 p1 p2)), .val (.ref b3), .val (.int (f3 p1 (f0_s0_11 p1 p2) (f0_s0_23 p1 p2) (f1_o1 (0 : Int32)))), .unset] [(.int (f3 p1 (f0_s0_11 p1 p2) (f0_s0_23 p1 p2) (f1_o1 (0 : Int32))))])) _
      refine XS.iconst X12.here hx rfl (hb hby at_49) ?_
      exact k
    obtain ⟨T14, Lmpre11, X14, e14, N14, pre11⟩ : ∃ (T' : State) (L' : List Loc), Stand p l e room_1 s m #[(.int p1), (.int p2)] below meth c T' L' 1 2 ∧ T'.heap = T7.heap ∧ Fr n0 L' ∧ ∀ t, Steps p.tables e below (T'.setTop (mkF m 68 #[.val (.int p1), .val (.int p2), .val (.int (f0_s0_11 p1 p2)), .val (.int (f0_s0_23 p1 p2)), .val (.ref b3), .val (.int (f3 p1 (f0_s0_11 p1 p2) (f0_s0_23 p1 p2) (f1_o1 (0 : Int32)))), .unset] [(.int (f0_s0_68 p1 p2))])) t → Steps p.tables e below (s₁.setTop (entryFrame m #[(.int p1), (.int p2)] maxLocals)) t := by
      by_cases hc50 : (f3 p1 (f0_s0_11 p1 p2) (f0_s0_23 p1 p2) (f1_o1 (0 : Int32))) = (2 : Int32)
      · obtain ⟨cq13, kq13, q13a, q13b, q13c⟩ := isOf hZ e12 c9
        obtain ⟨_, _, ⟨T13, L13, k13, n13⟩, -, X13, ⟨Lc13, hQ13, l13, y13, z13⟩, st13⟩ := X12.virtualBack hx (y := (⟨"com/example/weaverbird/weaverbird/format/ConfigurationChoice", "isSettled", "(I)Z"⟩ : MethodName)) (z := (⟨"com/example/weaverbird/weaverbird/format/ConfigurationChoice", "isSettled", "(I)Z"⟩ : MethodName)) hown (mvT hZ (hw _ (List.mem_of_getElem? (i := 18) rfl))) (mvT hZ (hw _ (List.mem_of_getElem? (i := 19) rfl))) (notFace_of_selects (args := #[]) (mvT hZ (hw _ (List.mem_of_getElem? (i := 21) rfl)))) (mvT hZ (hw _ (List.mem_of_getElem? (i := 21) rfl))) (mvT hZ (hw _ (List.mem_of_getElem? (i := 20) rfl))) (by decide) (backOf (W := 0) (rm4 l Z a0 hw [] b3 (f3 p1 (f0_s0_11 p1 p2) (f0_s0_23 p1 p2) (f1_o1 (0 : Int32))) (f1_o1 (0 : Int32)) T7.heap n0 c8 c11) hZ (hw _ (List.mem_of_getElem? (i := 22) rfl)) (hw _ (List.mem_of_getElem? (i := 2) rfl)) (by decide) (by decide)) q13a q13c (g := (mkF m 57 #[.val (.int p1), .val (.int p2), .val (.int (f0_s0_11 p1 p2)), .val (.int (f0_s0_23 p1 p2)), .val (.ref b3), .val (.int (f3 p1 (f0_s0_11 p1 p2) (f0_s0_23 p1 p2) (f1_o1 (0 : Int32)))), .unset] [(.int (f3 p1 (f0_s0_11 p1 p2) (f0_s0_23 p1 p2) (f1_o1 (0 : Int32)))), (.ref b3)])) rfl (by rw [hml]; rfl) (Steps.refl _) (argsL := [(.int (f3 p1 (f0_s0_11 p1 p2) (f0_s0_23 p1 p2) (f1_o1 (0 : Int32))))]) (rest := []) (lenOf pd_2 rfl) rfl (by show 2 * 0 + _ ≤ _; exact Nat.le_of_eq rfl) (hb hby at_57) (fun _ _ => ⟨rfl, e12, (by decide : 1 + 0 ≤ _), (by decide : 2 + 0 ≤ _)⟩)
        dsimp only [Pt.U, Pt.locs, Pt.cells, Pt.slots] at X13 l13 y13 z13 st13 hQ13
        subst l13 y13 z13
        obtain ⟨rfl, N13q, e13⟩ := hQ13
        have N13 := Fr.app N12 N13q
        have pre12 : ∀ t, Steps p.tables e below (T13.setTop (mkF m 60 #[.val (.int p1), .val (.int p2), .val (.int (f0_s0_11 p1 p2)), .val (.int (f0_s0_23 p1 p2)), .val (.ref b3), .val (.int (f3 p1 (f0_s0_11 p1 p2) (f0_s0_23 p1 p2) (f1_o1 (0 : Int32)))), .unset] [(.int (f4 (f3 p1 (f0_s0_11 p1 p2) (f0_s0_23 p1 p2) (f1_o1 (0 : Int32))) (f1_o1 (0 : Int32))))])) t → Steps p.tables e below (s₁.setTop (entryFrame m #[(.int p1), (.int p2)] maxLocals)) t := by
          intro t k
          refine pre10 t ?_
          show Steps p.tables e below (T12.setTop (mkF m 50 #[.val (.int p1), .val (.int p2), .val (.int (f0_s0_11 p1 p2)), .val (.int (f0_s0_23 p1 p2)), .val (.ref b3), .val (.int (f3 p1 (f0_s0_11 p1 p2) (f0_s0_23 p1 p2) (f1_o1 (0 : Int32)))), .unset] [(.int (2 : Int32)), (.int (f3 p1 (f0_s0_11 p1 p2) (f0_s0_23 p1 p2) (f1_o1 (0 : Int32))))])) _
          refine XS.icmpNo X12.here hx rfl (hb hby at_50) rfl (teq hc50).2 ?_
          show Steps p.tables e below (T12.setTop (mkF m 53 #[.val (.int p1), .val (.int p2), .val (.int (f0_s0_11 p1 p2)), .val (.int (f0_s0_23 p1 p2)), .val (.ref b3), .val (.int (f3 p1 (f0_s0_11 p1 p2) (f0_s0_23 p1 p2) (f1_o1 (0 : Int32)))), .unset] [])) _
          refine XS.aload X12.here hx rfl (hb hby at_53) rfl rfl ?_
          show Steps p.tables e below (T12.setTop (mkF m 55 #[.val (.int p1), .val (.int p2), .val (.int (f0_s0_11 p1 p2)), .val (.int (f0_s0_23 p1 p2)), .val (.ref b3), .val (.int (f3 p1 (f0_s0_11 p1 p2) (f0_s0_23 p1 p2) (f1_o1 (0 : Int32)))), .unset] [(.ref b3)])) _
          refine XS.iload X12.here hx rfl (hb hby at_55) rfl ?_
          show Steps p.tables e below (T12.setTop (mkF m 57 #[.val (.int p1), .val (.int p2), .val (.int (f0_s0_11 p1 p2)), .val (.int (f0_s0_23 p1 p2)), .val (.ref b3), .val (.int (f3 p1 (f0_s0_11 p1 p2) (f0_s0_23 p1 p2) (f1_o1 (0 : Int32)))), .unset] [(.int (f3 p1 (f0_s0_11 p1 p2) (f0_s0_23 p1 p2) (f1_o1 (0 : Int32)))), (.ref b3)])) _
          refine st13.trans ?_
          exact k
        by_cases hc60 : (f4 (f3 p1 (f0_s0_11 p1 p2) (f0_s0_23 p1 p2) (f1_o1 (0 : Int32))) (f1_o1 (0 : Int32))) = (0 : Int32)
        · have eq13 := (show (f0_s0_68 p1 p2) = (0 : Int32) from by unfold f0_s0_68; simp only [if_pos hc50, if_pos hc60])
          refine ⟨T13, _, X13, e13, N13, fun t k => ?_⟩
          try rw [eq13] at k
          refine pre12 t ?_
          show Steps p.tables e below (T13.setTop (mkF m 60 #[.val (.int p1), .val (.int p2), .val (.int (f0_s0_11 p1 p2)), .val (.int (f0_s0_23 p1 p2)), .val (.ref b3), .val (.int (f3 p1 (f0_s0_11 p1 p2) (f0_s0_23 p1 p2) (f1_o1 (0 : Int32)))), .unset] [(.int (f4 (f3 p1 (f0_s0_11 p1 p2) (f0_s0_23 p1 p2) (f1_o1 (0 : Int32))) (f1_o1 (0 : Int32))))])) _
          refine XS.ifYes X13.here hx rfl (pc0 := 60) (pc' := 67) rfl (hb hby at_60) rfl ((if0 _ _).trans (teq hc60).1) (by decide) (by decide) ?_
          show Steps p.tables e below (T13.setTop (mkF m 67 #[.val (.int p1), .val (.int p2), .val (.int (f0_s0_11 p1 p2)), .val (.int (f0_s0_23 p1 p2)), .val (.ref b3), .val (.int (f3 p1 (f0_s0_11 p1 p2) (f0_s0_23 p1 p2) (f1_o1 (0 : Int32)))), .unset] [])) _
          refine XS.iconst X13.here hx rfl (hb hby at_67) ?_
          exact k
        · have eq14 := (show (f0_s0_68 p1 p2) = (1 : Int32) from by unfold f0_s0_68; simp only [if_pos hc50, if_neg hc60])
          refine ⟨T13, _, X13, e13, N13, fun t k => ?_⟩
          try rw [eq14] at k
          refine pre12 t ?_
          show Steps p.tables e below (T13.setTop (mkF m 60 #[.val (.int p1), .val (.int p2), .val (.int (f0_s0_11 p1 p2)), .val (.int (f0_s0_23 p1 p2)), .val (.ref b3), .val (.int (f3 p1 (f0_s0_11 p1 p2) (f0_s0_23 p1 p2) (f1_o1 (0 : Int32)))), .unset] [(.int (f4 (f3 p1 (f0_s0_11 p1 p2) (f0_s0_23 p1 p2) (f1_o1 (0 : Int32))) (f1_o1 (0 : Int32))))])) _
          refine XS.ifNo X13.here hx rfl (hb hby at_60) rfl ((if0 _ _).trans (feq hc60).1) ?_
          show Steps p.tables e below (T13.setTop (mkF m 63 #[.val (.int p1), .val (.int p2), .val (.int (f0_s0_11 p1 p2)), .val (.int (f0_s0_23 p1 p2)), .val (.ref b3), .val (.int (f3 p1 (f0_s0_11 p1 p2) (f0_s0_23 p1 p2) (f1_o1 (0 : Int32)))), .unset] [])) _
          refine XS.iconst X13.here hx rfl (hb hby at_63) ?_
          show Steps p.tables e below (T13.setTop (mkF m 64 #[.val (.int p1), .val (.int p2), .val (.int (f0_s0_11 p1 p2)), .val (.int (f0_s0_23 p1 p2)), .val (.ref b3), .val (.int (f3 p1 (f0_s0_11 p1 p2) (f0_s0_23 p1 p2) (f1_o1 (0 : Int32)))), .unset] [(.int (1 : Int32))])) _
          refine XS.goto X13.here hx rfl (pc0 := 64) (pc' := 68) rfl (hb hby at_64) (by decide) (by decide) ?_
          exact k
      · have eq15 := (show (f0_s0_68 p1 p2) = (0 : Int32) from by unfold f0_s0_68; simp only [if_neg hc50])
        refine ⟨T12, _, X12, e12, N12, fun t k => ?_⟩
        try rw [eq15] at k
        refine pre10 t ?_
        show Steps p.tables e below (T12.setTop (mkF m 50 #[.val (.int p1), .val (.int p2), .val (.int (f0_s0_11 p1 p2)), .val (.int (f0_s0_23 p1 p2)), .val (.ref b3), .val (.int (f3 p1 (f0_s0_11 p1 p2) (f0_s0_23 p1 p2) (f1_o1 (0 : Int32)))), .unset] [(.int (2 : Int32)), (.int (f3 p1 (f0_s0_11 p1 p2) (f0_s0_23 p1 p2) (f1_o1 (0 : Int32))))])) _
        refine XS.icmpYes X12.here hx rfl (pc0 := 50) (pc' := 67) rfl (hb hby at_50) rfl (feq hc50).2 (by decide) (by decide) ?_
        show Steps p.tables e below (T12.setTop (mkF m 67 #[.val (.int p1), .val (.int p2), .val (.int (f0_s0_11 p1 p2)), .val (.int (f0_s0_23 p1 p2)), .val (.ref b3), .val (.int (f3 p1 (f0_s0_11 p1 p2) (f0_s0_23 p1 p2) (f1_o1 (0 : Int32)))), .unset] [])) _
        refine XS.iconst X12.here hx rfl (hb hby at_67) ?_
        exact k
    have eq16 : (f0 p1 p2) = (nar .boolean (f0_s0_68 p1 p2)) := by unfold f0; simp only [if_pos hc44]
    obtain ⟨fs, hr, hrun, hended, hW, hsame⟩ := X14.leave (v := some (.int (nar .boolean (f0_s0_68 p1 p2)))) (fun h => by rw [Bd.returns] at h; cases h)
    refine ⟨_, _, pre11 _ ?_, hrun, hended, _, _, rfl, ?_, ⟨_, rfl⟩, hW, hsame.mono (by decide) (by decide)⟩
    · show Steps p.tables e below (T14.setTop (mkF m 68 #[.val (.int p1), .val (.int p2), .val (.int (f0_s0_11 p1 p2)), .val (.int (f0_s0_23 p1 p2)), .val (.ref b3), .val (.int (f3 p1 (f0_s0_11 p1 p2) (f0_s0_23 p1 p2) (f1_o1 (0 : Int32)))), .unset] [(.int (f0_s0_68 p1 p2))])) _
      refine XS.istore X14.here hx rfl (hb hby at_68) rfl (l' := #[.val (.int p1), .val (.int p2), .val (.int (f0_s0_11 p1 p2)), .val (.int (f0_s0_23 p1 p2)), .val (.ref b3), .val (.int (f3 p1 (f0_s0_11 p1 p2) (f0_s0_23 p1 p2) (f1_o1 (0 : Int32)))), .val (.int (f0_s0_68 p1 p2))]) rfl ?_
      show Steps p.tables e below (T14.setTop (mkF m 70 #[.val (.int p1), .val (.int p2), .val (.int (f0_s0_11 p1 p2)), .val (.int (f0_s0_23 p1 p2)), .val (.ref b3), .val (.int (f3 p1 (f0_s0_11 p1 p2) (f0_s0_23 p1 p2) (f1_o1 (0 : Int32)))), .val (.int (f0_s0_68 p1 p2))] [])) _
      refine XS.goto X14.here hx rfl (pc0 := 70) (pc' := 105) rfl (hb hby at_70) (by decide) (by decide) ?_
      show Steps p.tables e below (T14.setTop (mkF m 105 #[.val (.int p1), .val (.int p2), .val (.int (f0_s0_11 p1 p2)), .val (.int (f0_s0_23 p1 p2)), .val (.ref b3), .val (.int (f3 p1 (f0_s0_11 p1 p2) (f0_s0_23 p1 p2) (f1_o1 (0 : Int32)))), .val (.int (f0_s0_68 p1 p2))] [])) _
      refine XS.iload X14.here hx rfl (hb hby at_105) rfl ?_
      show Steps p.tables e below (T14.setTop (mkF m 107 #[.val (.int p1), .val (.int p2), .val (.int (f0_s0_11 p1 p2)), .val (.int (f0_s0_23 p1 p2)), .val (.ref b3), .val (.int (f3 p1 (f0_s0_11 p1 p2) (f0_s0_23 p1 p2) (f1_o1 (0 : Int32)))), .val (.int (f0_s0_68 p1 p2))] [(.int (f0_s0_68 p1 p2))])) _
      exact retN X14 hx (t := .boolean) Bd.returns (by simp) (hb hby at_107) hr
    · show Q0 Z p1 p2 h0 n0 _ T14.heap _
      rw [e14]
      exact ⟨by rw [eq16], N14, trivial⟩
  · have pre17 : ∀ t, Steps p.tables e below (T12.setTop (mkF m 74 #[.val (.int p1), .val (.int p2), .val (.int (f0_s0_11 p1 p2)), .val (.int (f0_s0_23 p1 p2)), .val (.ref b3), .val (.int (f3 p1 (f0_s0_11 p1 p2) (f0_s0_23 p1 p2) (f1_o1 (0 : Int32)))), .unset] [(.int (f0_s0_23 p1 p2))])) t → Steps p.tables e below (s₁.setTop (entryFrame m #[(.int p1), (.int p2)] maxLocals)) t := by
      intro t k
      refine pre9 t ?_
      show Steps p.tables e below (T12.setTop (mkF m 44 #[.val (.int p1), .val (.int p2), .val (.int (f0_s0_11 p1 p2)), .val (.int (f0_s0_23 p1 p2)), .val (.ref b3), .val (.int (f3 p1 (f0_s0_11 p1 p2) (f0_s0_23 p1 p2) (f1_o1 (0 : Int32)))), .unset] [(.int (f0_s0_11 p1 p2))])) _
      refine XS.ifYes X12.here hx rfl (pc0 := 44) (pc' := 73) rfl (hb hby at_44) rfl ((if0 _ _).trans (feq hc44).2) (by decide) (by decide) ?_
      show Steps p.tables e below (T12.setTop (mkF m 73 #[.val (.int p1), .val (.int p2), .val (.int (f0_s0_11 p1 p2)), .val (.int (f0_s0_23 p1 p2)), .val (.ref b3), .val (.int (f3 p1 (f0_s0_11 p1 p2) (f0_s0_23 p1 p2) (f1_o1 (0 : Int32)))), .unset] [])) _
      refine XS.iloadN X12.here hx rfl (hb hby at_73) rfl ?_
      exact k
    by_cases hc74 : (f0_s0_23 p1 p2) = (0 : Int32)
    · have pre18 : ∀ t, Steps p.tables e below (T12.setTop (mkF m 79 #[.val (.int p1), .val (.int p2), .val (.int (f0_s0_11 p1 p2)), .val (.int (f0_s0_23 p1 p2)), .val (.ref b3), .val (.int (f3 p1 (f0_s0_11 p1 p2) (f0_s0_23 p1 p2) (f1_o1 (0 : Int32)))), .unset] [(.int (f3 p1 (f0_s0_11 p1 p2) (f0_s0_23 p1 p2) (f1_o1 (0 : Int32))))])) t → Steps p.tables e below (s₁.setTop (entryFrame m #[(.int p1), (.int p2)] maxLocals)) t := by
        intro t k
        refine pre17 t ?_
        show Steps p.tables e below (T12.setTop (mkF m 74 #[.val (.int p1), .val (.int p2), .val (.int (f0_s0_11 p1 p2)), .val (.int (f0_s0_23 p1 p2)), .val (.ref b3), .val (.int (f3 p1 (f0_s0_11 p1 p2) (f0_s0_23 p1 p2) (f1_o1 (0 : Int32)))), .unset] [(.int (f0_s0_23 p1 p2))])) _
        refine XS.ifNo X12.here hx rfl (hb hby at_74) rfl ((if0 _ _).trans (teq hc74).2) ?_
        show Steps p.tables e below (T12.setTop (mkF m 77 #[.val (.int p1), .val (.int p2), .val (.int (f0_s0_11 p1 p2)), .val (.int (f0_s0_23 p1 p2)), .val (.ref b3), .val (.int (f3 p1 (f0_s0_11 p1 p2) (f0_s0_23 p1 p2) (f1_o1 (0 : Int32)))), .unset] [])) _
        refine XS.iload X12.here hx rfl (hb hby at_77) rfl ?_
        exact k
      have pre19 : ∀ t, Steps p.tables e below (T12.setTop (mkF m 87 #[.val (.int p1), .val (.int p2), .val (.int (f0_s0_11 p1 p2)), .val (.int (f0_s0_23 p1 p2)), .val (.ref b3), .val (.int (f3 p1 (f0_s0_11 p1 p2) (f0_s0_23 p1 p2) (f1_o1 (0 : Int32)))), .unset] [(.int (f0_s0_87 p1 p2))])) t → Steps p.tables e below (s₁.setTop (entryFrame m #[(.int p1), (.int p2)] maxLocals)) t := by
        intro t k
        by_cases hc79 : (f3 p1 (f0_s0_11 p1 p2) (f0_s0_23 p1 p2) (f1_o1 (0 : Int32))) = (0 : Int32)
        · have eq20 := (show (f0_s0_87 p1 p2) = (1 : Int32) from by unfold f0_s0_87; simp only [if_pos hc79])
          try rw [eq20] at k
          refine pre18 t ?_
          show Steps p.tables e below (T12.setTop (mkF m 79 #[.val (.int p1), .val (.int p2), .val (.int (f0_s0_11 p1 p2)), .val (.int (f0_s0_23 p1 p2)), .val (.ref b3), .val (.int (f3 p1 (f0_s0_11 p1 p2) (f0_s0_23 p1 p2) (f1_o1 (0 : Int32)))), .unset] [(.int (f3 p1 (f0_s0_11 p1 p2) (f0_s0_23 p1 p2) (f1_o1 (0 : Int32))))])) _
          refine XS.ifNo X12.here hx rfl (hb hby at_79) rfl ((if0 _ _).trans (teq hc79).2) ?_
          show Steps p.tables e below (T12.setTop (mkF m 82 #[.val (.int p1), .val (.int p2), .val (.int (f0_s0_11 p1 p2)), .val (.int (f0_s0_23 p1 p2)), .val (.ref b3), .val (.int (f3 p1 (f0_s0_11 p1 p2) (f0_s0_23 p1 p2) (f1_o1 (0 : Int32)))), .unset] [])) _
          refine XS.iconst X12.here hx rfl (hb hby at_82) ?_
          show Steps p.tables e below (T12.setTop (mkF m 83 #[.val (.int p1), .val (.int p2), .val (.int (f0_s0_11 p1 p2)), .val (.int (f0_s0_23 p1 p2)), .val (.ref b3), .val (.int (f3 p1 (f0_s0_11 p1 p2) (f0_s0_23 p1 p2) (f1_o1 (0 : Int32)))), .unset] [(.int (1 : Int32))])) _
          refine XS.goto X12.here hx rfl (pc0 := 83) (pc' := 87) rfl (hb hby at_83) (by decide) (by decide) ?_
          exact k
        · have eq21 := (show (f0_s0_87 p1 p2) = (0 : Int32) from by unfold f0_s0_87; simp only [if_neg hc79])
          try rw [eq21] at k
          refine pre18 t ?_
          show Steps p.tables e below (T12.setTop (mkF m 79 #[.val (.int p1), .val (.int p2), .val (.int (f0_s0_11 p1 p2)), .val (.int (f0_s0_23 p1 p2)), .val (.ref b3), .val (.int (f3 p1 (f0_s0_11 p1 p2) (f0_s0_23 p1 p2) (f1_o1 (0 : Int32)))), .unset] [(.int (f3 p1 (f0_s0_11 p1 p2) (f0_s0_23 p1 p2) (f1_o1 (0 : Int32))))])) _
          refine XS.ifYes X12.here hx rfl (pc0 := 79) (pc' := 86) rfl (hb hby at_79) rfl ((if0 _ _).trans (feq hc79).2) (by decide) (by decide) ?_
          show Steps p.tables e below (T12.setTop (mkF m 86 #[.val (.int p1), .val (.int p2), .val (.int (f0_s0_11 p1 p2)), .val (.int (f0_s0_23 p1 p2)), .val (.ref b3), .val (.int (f3 p1 (f0_s0_11 p1 p2) (f0_s0_23 p1 p2) (f1_o1 (0 : Int32)))), .unset] [])) _
          refine XS.iconst X12.here hx rfl (hb hby at_86) ?_
          exact k
      have eq22 : (f0 p1 p2) = (nar .boolean (f0_s0_87 p1 p2)) := by unfold f0; simp only [if_neg hc44, if_pos hc74]
      obtain ⟨fs, hr, hrun, hended, hW, hsame⟩ := X12.leave (v := some (.int (nar .boolean (f0_s0_87 p1 p2)))) (fun h => by rw [Bd.returns] at h; cases h)
      refine ⟨_, _, pre19 _ ?_, hrun, hended, _, _, rfl, ?_, ⟨_, rfl⟩, hW, hsame.mono (by decide) (by decide)⟩
      · show Steps p.tables e below (T12.setTop (mkF m 87 #[.val (.int p1), .val (.int p2), .val (.int (f0_s0_11 p1 p2)), .val (.int (f0_s0_23 p1 p2)), .val (.ref b3), .val (.int (f3 p1 (f0_s0_11 p1 p2) (f0_s0_23 p1 p2) (f1_o1 (0 : Int32)))), .unset] [(.int (f0_s0_87 p1 p2))])) _
        refine XS.istore X12.here hx rfl (hb hby at_87) rfl (l' := #[.val (.int p1), .val (.int p2), .val (.int (f0_s0_11 p1 p2)), .val (.int (f0_s0_23 p1 p2)), .val (.ref b3), .val (.int (f3 p1 (f0_s0_11 p1 p2) (f0_s0_23 p1 p2) (f1_o1 (0 : Int32)))), .val (.int (f0_s0_87 p1 p2))]) rfl ?_
        show Steps p.tables e below (T12.setTop (mkF m 89 #[.val (.int p1), .val (.int p2), .val (.int (f0_s0_11 p1 p2)), .val (.int (f0_s0_23 p1 p2)), .val (.ref b3), .val (.int (f3 p1 (f0_s0_11 p1 p2) (f0_s0_23 p1 p2) (f1_o1 (0 : Int32)))), .val (.int (f0_s0_87 p1 p2))] [])) _
        refine XS.goto X12.here hx rfl (pc0 := 89) (pc' := 105) rfl (hb hby at_89) (by decide) (by decide) ?_
        show Steps p.tables e below (T12.setTop (mkF m 105 #[.val (.int p1), .val (.int p2), .val (.int (f0_s0_11 p1 p2)), .val (.int (f0_s0_23 p1 p2)), .val (.ref b3), .val (.int (f3 p1 (f0_s0_11 p1 p2) (f0_s0_23 p1 p2) (f1_o1 (0 : Int32)))), .val (.int (f0_s0_87 p1 p2))] [])) _
        refine XS.iload X12.here hx rfl (hb hby at_105) rfl ?_
        show Steps p.tables e below (T12.setTop (mkF m 107 #[.val (.int p1), .val (.int p2), .val (.int (f0_s0_11 p1 p2)), .val (.int (f0_s0_23 p1 p2)), .val (.ref b3), .val (.int (f3 p1 (f0_s0_11 p1 p2) (f0_s0_23 p1 p2) (f1_o1 (0 : Int32)))), .val (.int (f0_s0_87 p1 p2))] [(.int (f0_s0_87 p1 p2))])) _
        exact retN X12 hx (t := .boolean) Bd.returns (by simp) (hb hby at_107) hr
      · show Q0 Z p1 p2 h0 n0 _ T12.heap _
        rw [e12]
        exact ⟨by rw [eq22], N12, trivial⟩
    · have pre23 : ∀ t, Steps p.tables e below (T12.setTop (mkF m 95 #[.val (.int p1), .val (.int p2), .val (.int (f0_s0_11 p1 p2)), .val (.int (f0_s0_23 p1 p2)), .val (.ref b3), .val (.int (f3 p1 (f0_s0_11 p1 p2) (f0_s0_23 p1 p2) (f1_o1 (0 : Int32)))), .unset] [(.int p1), (.int (f3 p1 (f0_s0_11 p1 p2) (f0_s0_23 p1 p2) (f1_o1 (0 : Int32))))])) t → Steps p.tables e below (s₁.setTop (entryFrame m #[(.int p1), (.int p2)] maxLocals)) t := by
        intro t k
        refine pre17 t ?_
        show Steps p.tables e below (T12.setTop (mkF m 74 #[.val (.int p1), .val (.int p2), .val (.int (f0_s0_11 p1 p2)), .val (.int (f0_s0_23 p1 p2)), .val (.ref b3), .val (.int (f3 p1 (f0_s0_11 p1 p2) (f0_s0_23 p1 p2) (f1_o1 (0 : Int32)))), .unset] [(.int (f0_s0_23 p1 p2))])) _
        refine XS.ifYes X12.here hx rfl (pc0 := 74) (pc' := 92) rfl (hb hby at_74) rfl ((if0 _ _).trans (feq hc74).2) (by decide) (by decide) ?_
        show Steps p.tables e below (T12.setTop (mkF m 92 #[.val (.int p1), .val (.int p2), .val (.int (f0_s0_11 p1 p2)), .val (.int (f0_s0_23 p1 p2)), .val (.ref b3), .val (.int (f3 p1 (f0_s0_11 p1 p2) (f0_s0_23 p1 p2) (f1_o1 (0 : Int32)))), .unset] [])) _
        refine XS.iload X12.here hx rfl (hb hby at_92) rfl ?_
        show Steps p.tables e below (T12.setTop (mkF m 94 #[.val (.int p1), .val (.int p2), .val (.int (f0_s0_11 p1 p2)), .val (.int (f0_s0_23 p1 p2)), .val (.ref b3), .val (.int (f3 p1 (f0_s0_11 p1 p2) (f0_s0_23 p1 p2) (f1_o1 (0 : Int32)))), .unset] [(.int (f3 p1 (f0_s0_11 p1 p2) (f0_s0_23 p1 p2) (f1_o1 (0 : Int32))))])) _
        refine XS.iloadN X12.here hx rfl (hb hby at_94) rfl ?_
        exact k
      have pre24 : ∀ t, Steps p.tables e below (T12.setTop (mkF m 103 #[.val (.int p1), .val (.int p2), .val (.int (f0_s0_11 p1 p2)), .val (.int (f0_s0_23 p1 p2)), .val (.ref b3), .val (.int (f3 p1 (f0_s0_11 p1 p2) (f0_s0_23 p1 p2) (f1_o1 (0 : Int32)))), .unset] [(.int (f0_s0_103 p1 p2))])) t → Steps p.tables e below (s₁.setTop (entryFrame m #[(.int p1), (.int p2)] maxLocals)) t := by
        intro t k
        by_cases hc95 : (f3 p1 (f0_s0_11 p1 p2) (f0_s0_23 p1 p2) (f1_o1 (0 : Int32))) = p1
        · have eq25 := (show (f0_s0_103 p1 p2) = (1 : Int32) from by unfold f0_s0_103; simp only [if_pos hc95])
          try rw [eq25] at k
          refine pre23 t ?_
          show Steps p.tables e below (T12.setTop (mkF m 95 #[.val (.int p1), .val (.int p2), .val (.int (f0_s0_11 p1 p2)), .val (.int (f0_s0_23 p1 p2)), .val (.ref b3), .val (.int (f3 p1 (f0_s0_11 p1 p2) (f0_s0_23 p1 p2) (f1_o1 (0 : Int32)))), .unset] [(.int p1), (.int (f3 p1 (f0_s0_11 p1 p2) (f0_s0_23 p1 p2) (f1_o1 (0 : Int32))))])) _
          refine XS.icmpNo X12.here hx rfl (hb hby at_95) rfl (teq hc95).2 ?_
          show Steps p.tables e below (T12.setTop (mkF m 98 #[.val (.int p1), .val (.int p2), .val (.int (f0_s0_11 p1 p2)), .val (.int (f0_s0_23 p1 p2)), .val (.ref b3), .val (.int (f3 p1 (f0_s0_11 p1 p2) (f0_s0_23 p1 p2) (f1_o1 (0 : Int32)))), .unset] [])) _
          refine XS.iconst X12.here hx rfl (hb hby at_98) ?_
          show Steps p.tables e below (T12.setTop (mkF m 99 #[.val (.int p1), .val (.int p2), .val (.int (f0_s0_11 p1 p2)), .val (.int (f0_s0_23 p1 p2)), .val (.ref b3), .val (.int (f3 p1 (f0_s0_11 p1 p2) (f0_s0_23 p1 p2) (f1_o1 (0 : Int32)))), .unset] [(.int (1 : Int32))])) _
          refine XS.goto X12.here hx rfl (pc0 := 99) (pc' := 103) rfl (hb hby at_99) (by decide) (by decide) ?_
          exact k
        · have eq26 := (show (f0_s0_103 p1 p2) = (0 : Int32) from by unfold f0_s0_103; simp only [if_neg hc95])
          try rw [eq26] at k
          refine pre23 t ?_
          show Steps p.tables e below (T12.setTop (mkF m 95 #[.val (.int p1), .val (.int p2), .val (.int (f0_s0_11 p1 p2)), .val (.int (f0_s0_23 p1 p2)), .val (.ref b3), .val (.int (f3 p1 (f0_s0_11 p1 p2) (f0_s0_23 p1 p2) (f1_o1 (0 : Int32)))), .unset] [(.int p1), (.int (f3 p1 (f0_s0_11 p1 p2) (f0_s0_23 p1 p2) (f1_o1 (0 : Int32))))])) _
          refine XS.icmpYes X12.here hx rfl (pc0 := 95) (pc' := 102) rfl (hb hby at_95) rfl (feq hc95).2 (by decide) (by decide) ?_
          show Steps p.tables e below (T12.setTop (mkF m 102 #[.val (.int p1), .val (.int p2), .val (.int (f0_s0_11 p1 p2)), .val (.int (f0_s0_23 p1 p2)), .val (.ref b3), .val (.int (f3 p1 (f0_s0_11 p1 p2) (f0_s0_23 p1 p2) (f1_o1 (0 : Int32)))), .unset] [])) _
          refine XS.iconst X12.here hx rfl (hb hby at_102) ?_
          exact k
      have eq27 : (f0 p1 p2) = (nar .boolean (f0_s0_103 p1 p2)) := by unfold f0; simp only [if_neg hc44, if_neg hc74]
      obtain ⟨fs, hr, hrun, hended, hW, hsame⟩ := X12.leave (v := some (.int (nar .boolean (f0_s0_103 p1 p2)))) (fun h => by rw [Bd.returns] at h; cases h)
      refine ⟨_, _, pre24 _ ?_, hrun, hended, _, _, rfl, ?_, ⟨_, rfl⟩, hW, hsame.mono (by decide) (by decide)⟩
      · show Steps p.tables e below (T12.setTop (mkF m 103 #[.val (.int p1), .val (.int p2), .val (.int (f0_s0_11 p1 p2)), .val (.int (f0_s0_23 p1 p2)), .val (.ref b3), .val (.int (f3 p1 (f0_s0_11 p1 p2) (f0_s0_23 p1 p2) (f1_o1 (0 : Int32)))), .unset] [(.int (f0_s0_103 p1 p2))])) _
        refine XS.istore X12.here hx rfl (hb hby at_103) rfl (l' := #[.val (.int p1), .val (.int p2), .val (.int (f0_s0_11 p1 p2)), .val (.int (f0_s0_23 p1 p2)), .val (.ref b3), .val (.int (f3 p1 (f0_s0_11 p1 p2) (f0_s0_23 p1 p2) (f1_o1 (0 : Int32)))), .val (.int (f0_s0_103 p1 p2))]) rfl ?_
        show Steps p.tables e below (T12.setTop (mkF m 105 #[.val (.int p1), .val (.int p2), .val (.int (f0_s0_11 p1 p2)), .val (.int (f0_s0_23 p1 p2)), .val (.ref b3), .val (.int (f3 p1 (f0_s0_11 p1 p2) (f0_s0_23 p1 p2) (f1_o1 (0 : Int32)))), .val (.int (f0_s0_103 p1 p2))] [])) _
        refine XS.iload X12.here hx rfl (hb hby at_105) rfl ?_
        show Steps p.tables e below (T12.setTop (mkF m 107 #[.val (.int p1), .val (.int p2), .val (.int (f0_s0_11 p1 p2)), .val (.int (f0_s0_23 p1 p2)), .val (.ref b3), .val (.int (f3 p1 (f0_s0_11 p1 p2) (f0_s0_23 p1 p2) (f1_o1 (0 : Int32)))), .val (.int (f0_s0_103 p1 p2))] [(.int (f0_s0_103 p1 p2))])) _
        exact retN X12 hx (t := .boolean) Bd.returns (by simp) (hb hby at_107) hr
      · show Q0 Z p1 p2 h0 n0 _ T12.heap _
        rw [e12]
        exact ⟨by rw [eq27], N12, trivial⟩
theorem own_law (a b : Int32) : f0 a b = 1 := by
  have n1 : nar .boolean 1 = 1 := rfl
  unfold f0 f0_s0_68 f0_s0_87 f0_s0_103 f4 f3 f1_o1
  by_cases h1 : f0_s0_11 a b = 0
  · simp only [if_pos h1, if_true, show ¬ ((1 : Int32) = 0) by decide, if_false, n1]
  · by_cases h2 : f0_s0_23 a b = 0
    · simp only [if_neg h1, if_pos h2, if_true, n1]
    · simp only [if_neg h1, if_neg h2, if_true, n1]

set_option maxRecDepth 65536 in
set_option maxHeartbeats 40000000 in
theorem comes_1 {Post : Tables → Env → Array Value → State → Outcome → State → Prop} (hpost : ∀ tb e args s v u, (limb_1_1.after args s (.returned v) u = true ∧ limb_1_2.after args s (.returned v) u = true ∧ True) → FrameEnd s (.returned v) u (Jvm.fieldLocs frame_1_writes args s ++ Jvm.arrayLocs frame_1_arrays args s ++ Jvm.staticLocs frame_1_statics s) 16 128 → Post tb e args s (.returned v) u) :
    ArmFor flags0 classFile x code maxLocals ret World_1 tables_1 room_1 Calls_1 rest_1 Pre_1 Post := by
  intro l hfl _ _ p e ha hc hk s m args below hf hA hF happ hP
  obtain ⟨hcalls, hrest, hpre⟩ := hP
  obtain ⟨-, -, -, hnamed, -, -, -, hat⟩ := (Spec.applies_iff hf).mp happ
  obtain ⟨hg, hn⟩ := and_e (Cond.before_iff.mp (show (Jvm.Cond.and given_1 narrow_1).before args s = true from hpre))
  obtain ⟨g1, g2⟩ := and_e hg
  obtain ⟨g3, g4⟩ := and_e g2
  obtain ⟨w0, w1, rfl⟩ : ∃ w0 w1 : Value, args = #[w0, w1] := by
    have hs : args.size = 2 := by simpa [Cond.value, given_1] using g1
    obtain ⟨L⟩ := args
    match L, hs with
    | [w0, w1], _ => exact ⟨w0, w1, rfl⟩
  have hw := fun d (hd : d ∈ tables_1) => atoms_spec (ws := Jvm.Cond.code x code maxLocals ret :: tables_1) hat d (List.mem_cons_of_mem _ hd)
  have hfit : Fit s := fun {y c} hc i hi => by
    obtain ⟨ha, rfl⟩ := Array.getElem?_eq_some_iff.mp hc
    have q := List.all_eq_true.mp ((Array.all_eq_true_iff_forall_mem.mp hF) _ (Array.getElem_mem ha)) i (List.mem_range.mpr hi)
    simpa [Array.getElem?_eq_getElem hi] using q
  obtain ⟨i0, ei0⟩ := is_v g3
  obtain rfl : w0 = (.int i0) := Option.some.inj ei0
  obtain ⟨i1, ei1⟩ := is_v g4
  obtain rfl : w1 = (.int i1) := Option.some.inj ei1
  obtain ⟨n, o, h1, h2, h3, v', L, rfl, ⟨hv', N, -⟩, hq⟩ := rm0 l s _ hw tables_1 i0 i1 s.heap s.heap.size (Nat.le_refl _)  p e ha hc hk s m _ below hf ((Spec.applies_iff_loose hf).mp happ).1 ⟨rfl, State.Warmed39.refl s, rfl⟩ trivial
  rw [own_law i0 i1] at hv'
  subst hv'
  refine ⟨n, _, h1, h2, h3, hpost _ _ _ _ _ _ ⟨Cond.after_iff.mpr rfl, Cond.after_iff.mpr (eq_i res_at (Term.int_eval (1)) rfl), trivial⟩ ⟨hq.1, hq.2.1, (hq.2.2.sift fun y hy => Or.inr (N y hy)).mono (by decide) (by decide)⟩⟩
theorem main_1_1 : Claimed_1_1 := comes_1 fun _ _ _ _ _ _ h hF => ⟨h.1, hF⟩
theorem main_1_2 : Claimed_1_2 := comes_1 fun _ _ _ _ _ _ h hF => ⟨h.2.1, hF⟩
end Jvm.Pilot.@@N@@
namespace Jvm.Pilot.@@N@@
open Jvm Jvm.ClassFile Sem Op Lib Jvm.Free Jvm.Stand Jvm.Pilot.@@N@@.Jvm.D
/-! MADE BY PROGRAM (witnessworld.py) out of the Statement's table words and the real class files: 9 classes; the members and pool entries that the words name. The judged class is class 1, her method 1. -/
namespace start1
open Jvm.ClassFile
def u (s : String) : CpInfo := .utf8 (stringToUtf16 s)
/-- a pool by its gaps: so many unusable entries, then the entry; so many at the end -/
def gap : Nat → List CpInfo → List CpInfo
  | 0, r => r
  | n + 1, r => .unusable :: gap n r
def poolList (es : List (Nat × CpInfo)) (last : Nat) : List CpInfo := es.foldr (fun e r => gap e.1 (e.2 :: r)) (gap last [])
def pool (es : List (Nat × CpInfo)) (last : Nat) : Array CpInfo := ⟨poolList es last⟩
def fileOf (pool : Array CpInfo) (this : Nat) (attrs : Array Attribute := #[]) (ms : Array MethodInfo := #[]) (fl : Nat := 33) (sup : Nat := 0) (ifs : Array Nat := #[]) (fds : Array FieldInfo := #[]) : ClassFile where
  minorVersion := 0
  majorVersion := 65
  constantPool := pool
  accessFlags := fl
  thisClass := this
  superClass := sup
  interfaces := ifs
  fields := fds
  methods := ms
  attributes := attrs
def plain (name : String) (sup : Option ClassId) : Class where
  name := name
  kind := .ordinary
  loader := none
  accessFlags := 33
  super := sup
  interfaces := #[]
  cf := none
  fields := #[]
  methods := #[]
  instanceTypes := #[]
  staticTypes := #[]
  resolved := #[]
  callSites := []
  init := .initialized
  statics := none
  mirror := none

def pool0 : Array CpInfo := pool [(5, u "<init>"), (0, u "()V"), (1, .class_ 10), (1, u "java/lang/Object")] 113

def k0c0 : Code := { maxStack := 0, maxLocals := 1, code := object_method_1_code, exceptionTable := #[], attributes := #[] }
def k0m0 : Method := { name := "<init>", desc := "()V", sig := { parameters := [], returnType := none }, accessFlags := 1, code := some k0c0 }
/-- java/lang/Object -/
def k0 : Class := { plain "java/lang/Object" none with
  accessFlags := 33
  interfaces := #[]
  cf := some (fileOf pool0 8 #[] #[{ accessFlags := 1, nameIndex := 5, descriptorIndex := 6, attributes := #[] }] 33 0 #[] #[])
  fields := #[]
  methods := #[k0m0]
  instanceTypes := #[]
  staticTypes := #[]
  resolved := Array.replicate 124 none
  statics := none }

def pool1 : Array CpInfo := pool [(2, .class_ 4), (0, .nameAndType 5 6), (0, u "java/lang/Object"), (0, u "<init>"), (0, u "()V"), (0, .class_ 8), (0, u "com/example/weaverbird/weaverbird/format/ConfigurationChoice"), (0, .methodref 7 3), (0, .methodref 7 11), (0, .nameAndType 12 13), (0, u "ofEntry"), (0, u "(IZZ)I"), (0, .methodref 7 15), (0, .nameAndType 16 17), (0, u "isSettled"), (0, u "(I)Z"), (0, .class_ 19), (0, u "com/example/weaverbird/weaverbird/format/ConfigurationChoiceOfEntryPinLaw"), (2, u "law"), (0, u "(II)Z")] 3

def k1m0 : Method := { name := "<init>", desc := "()V", sig := { parameters := [], returnType := none }, accessFlags := 1, code := none }
def k1c1 : Code := { maxStack := 4, maxLocals := 7, code := code, exceptionTable := #[], attributes := #[] }
def k1m1 : Method := { name := "law", desc := "(II)Z", sig := { parameters := [.int, .int], returnType := some .boolean }, accessFlags := 9, code := some k1c1 }
/-- com/example/weaverbird/weaverbird/format/ConfigurationChoiceOfEntryPinLaw -/
def k1 : Class := { plain "com/example/weaverbird/weaverbird/format/ConfigurationChoiceOfEntryPinLaw" (some 0) with
  accessFlags := 49
  interfaces := #[]
  cf := some (fileOf pool1 18 #[] #[{ accessFlags := 1, nameIndex := 5, descriptorIndex := 6, attributes := #[] }, { accessFlags := 9, nameIndex := 22, descriptorIndex := 23, attributes := #[] }] 49 2 #[] #[])
  fields := #[]
  methods := #[k1m0, k1m1]
  instanceTypes := #[]
  staticTypes := #[]
  resolved := Array.replicate 27 none
  statics := none }

def pool2 : Array CpInfo := pool [(1, .methodref 2 3), (0, .class_ 4), (0, .nameAndType 5 6), (0, u "java/lang/Object"), (0, u "<init>"), (0, u "()V"), (0, .fieldref 8 9), (0, .class_ 10), (0, .nameAndType 11 12), (0, u "com/example/weaverbird/weaverbird/format/ConfigurationChoice"), (0, u "locale"), (0, u "Lcom/example/weaverbird/weaverbird/format/DeviceLocale;"), (0, .fieldref 8 14), (0, .nameAndType 15 16), (0, u "highest"), (0, u "I"), (11, u "QUALIFIERS"), (0, u "[[I"), (66, u "NONE"), (2, u "OTHER"), (1, u "DEFAULT"), (1, u "OTHER_REGION"), (1, u "LANGUAGE"), (1, u "EXACT"), (1, u "QUALIFIERS_START"), (0, u "LANGUAGE_AT"), (1, u "REGION_AT"), (1, u "SCRIPT_AT"), (1, u "SCRIPT_END"), (1, u "SCRIPT_DERIVED_AT"), (1, u "PACKED"), (1, u "AUDIENCE"), (0, u "LOCALE"), (0, u "DEVICE"), (8, u "ofEntry"), (0, u "(IZZ)I"), (2, u "isSettled"), (0, u "(I)Z")] 3

def k2c0 : Code := { maxStack := 2, maxLocals := 1, code := prog_37_method_1_code, exceptionTable := #[], attributes := #[] }
def k2m0 : Method := { name := "<init>", desc := "()V", sig := { parameters := [], returnType := none }, accessFlags := 0, code := some k2c0 }
def k2c1 : Code := { maxStack := 1, maxLocals := 5, code := prog_37_method_8_code, exceptionTable := #[], attributes := #[] }
def k2m1 : Method := { name := "ofEntry", desc := "(IZZ)I", sig := { parameters := [.int, .boolean, .boolean], returnType := some .int }, accessFlags := 0, code := some k2c1 }
def k2c2 : Code := { maxStack := 2, maxLocals := 2, code := prog_37_method_10_code, exceptionTable := #[], attributes := #[] }
def k2m2 : Method := { name := "isSettled", desc := "(I)Z", sig := { parameters := [.int], returnType := some .boolean }, accessFlags := 0, code := some k2c2 }
/-- com/example/weaverbird/weaverbird/format/ConfigurationChoice -/
def k2 : Class := { plain "com/example/weaverbird/weaverbird/format/ConfigurationChoice" (some 0) with
  accessFlags := 48
  interfaces := #[]
  cf := some (fileOf pool2 8 #[] #[{ accessFlags := 0, nameIndex := 5, descriptorIndex := 6, attributes := #[] }, { accessFlags := 0, nameIndex := 133, descriptorIndex := 134, attributes := #[] }, { accessFlags := 0, nameIndex := 137, descriptorIndex := 138, attributes := #[] }] 48 2 #[] #[{ accessFlags := 24, nameIndex := 96, descriptorIndex := 16, attributes := #[] }, { accessFlags := 26, nameIndex := 99, descriptorIndex := 16, attributes := #[] }, { accessFlags := 26, nameIndex := 101, descriptorIndex := 16, attributes := #[] }, { accessFlags := 26, nameIndex := 103, descriptorIndex := 16, attributes := #[] }, { accessFlags := 26, nameIndex := 105, descriptorIndex := 16, attributes := #[] }, { accessFlags := 26, nameIndex := 107, descriptorIndex := 16, attributes := #[] }, { accessFlags := 26, nameIndex := 109, descriptorIndex := 16, attributes := #[] }, { accessFlags := 26, nameIndex := 110, descriptorIndex := 16, attributes := #[] }, { accessFlags := 26, nameIndex := 112, descriptorIndex := 16, attributes := #[] }, { accessFlags := 26, nameIndex := 114, descriptorIndex := 16, attributes := #[] }, { accessFlags := 26, nameIndex := 116, descriptorIndex := 16, attributes := #[] }, { accessFlags := 26, nameIndex := 118, descriptorIndex := 16, attributes := #[] }, { accessFlags := 26, nameIndex := 120, descriptorIndex := 16, attributes := #[] }, { accessFlags := 26, nameIndex := 122, descriptorIndex := 16, attributes := #[] }, { accessFlags := 26, nameIndex := 123, descriptorIndex := 16, attributes := #[] }, { accessFlags := 26, nameIndex := 124, descriptorIndex := 16, attributes := #[] }, { accessFlags := 26, nameIndex := 28, descriptorIndex := 29, attributes := #[] }, { accessFlags := 18, nameIndex := 11, descriptorIndex := 12, attributes := #[] }, { accessFlags := 18, nameIndex := 15, descriptorIndex := 16, attributes := #[] }])
  fields := #[{ name := "NONE", type := .int, accessFlags := 24, slot := 0, constantValue := 0 }, { name := "OTHER", type := .int, accessFlags := 26, slot := 1, constantValue := 0 }, { name := "DEFAULT", type := .int, accessFlags := 26, slot := 2, constantValue := 0 }, { name := "OTHER_REGION", type := .int, accessFlags := 26, slot := 3, constantValue := 0 }, { name := "LANGUAGE", type := .int, accessFlags := 26, slot := 4, constantValue := 0 }, { name := "EXACT", type := .int, accessFlags := 26, slot := 5, constantValue := 0 }, { name := "QUALIFIERS_START", type := .int, accessFlags := 26, slot := 6, constantValue := 0 }, { name := "LANGUAGE_AT", type := .int, accessFlags := 26, slot := 7, constantValue := 0 }, { name := "REGION_AT", type := .int, accessFlags := 26, slot := 8, constantValue := 0 }, { name := "SCRIPT_AT", type := .int, accessFlags := 26, slot := 9, constantValue := 0 }, { name := "SCRIPT_END", type := .int, accessFlags := 26, slot := 10, constantValue := 0 }, { name := "SCRIPT_DERIVED_AT", type := .int, accessFlags := 26, slot := 11, constantValue := 0 }, { name := "PACKED", type := .int, accessFlags := 26, slot := 12, constantValue := 0 }, { name := "AUDIENCE", type := .int, accessFlags := 26, slot := 13, constantValue := 0 }, { name := "LOCALE", type := .int, accessFlags := 26, slot := 14, constantValue := 0 }, { name := "DEVICE", type := .int, accessFlags := 26, slot := 15, constantValue := 0 }, { name := "QUALIFIERS", type := (.array (.array .int)), accessFlags := 26, slot := 16, constantValue := 0 }, { name := "locale", type := (.object "com/example/weaverbird/weaverbird/format/DeviceLocale"), accessFlags := 18, slot := 0, constantValue := 0 }, { name := "highest", type := .int, accessFlags := 18, slot := 1, constantValue := 0 }]
  methods := #[k2m0, k2m1, k2m2]
  instanceTypes := #[(.object "com/example/weaverbird/weaverbird/format/DeviceLocale"), .int]
  staticTypes := #[.int, .int, .int, .int, .int, .int, .int, .int, .int, .int, .int, .int, .int, .int, .int, .int, (.array (.array .int))]
  resolved := Array.replicate 142 none
  statics := none }

def pool3 : Array CpInfo := pool [(1, u "java/lang/Cloneable"), (0, .class_ 1), (0, u "java/lang/Object"), (0, .class_ 3)] 3

/-- java/lang/Cloneable -/
def k3 : Class := { plain "java/lang/Cloneable" (some 0) with
  accessFlags := 1537
  interfaces := #[]
  cf := some (fileOf pool3 2 #[] #[] 1537 4 #[] #[])
  fields := #[]
  methods := #[]
  instanceTypes := #[]
  staticTypes := #[]
  resolved := Array.replicate 8 none
  statics := none }

def pool4 : Array CpInfo := pool [(1, u "java/io/Serializable"), (0, .class_ 1), (0, u "java/lang/Object"), (0, .class_ 3)] 3

/-- java/io/Serializable -/
def k4 : Class := { plain "java/io/Serializable" (some 0) with
  accessFlags := 1537
  interfaces := #[]
  cf := some (fileOf pool4 2 #[] #[] 1537 4 #[] #[])
  fields := #[]
  methods := #[]
  instanceTypes := #[]
  staticTypes := #[]
  resolved := Array.replicate 8 none
  statics := none }

/-- the primitive byte -/
def k5 : Class := { plain "byte" none with kind := .primitive 'B', accessFlags := 0x411 }
/-- [B -/
def k6 : Class := { plain "[B" (some 0) with kind := .array 5 .byte, interfaces := #[3, 4], accessFlags := 1041 }

/-- the primitive int -/
def k7 : Class := { plain "int" none with kind := .primitive 'I', accessFlags := 0x411 }
/-- [I -/
def k8 : Class := { plain "[I" (some 0) with kind := .array 7 .int, interfaces := #[3, 4], accessFlags := 1041 }

def heap : Heap := #[]
def classes : Array Class := #[k0, k1, k2, k3, k4, k5, k6, k7, k8]
def interned : List (Array UInt16 × Addr) := []
def slotsUsed : Nat := 0
def theMethod : MethodId := ⟨1, 1⟩
def args0 : Array Value := #[.int 65, .int 2]
def aboutOver (below : List Frame) : State where
  vm := { classes := classes, interned := interned.toArray }
  heap := heap
  slotsUsed := slotsUsed
  threads := #[{ frames := .invoking theMethod args0 :: below }]
def below0 : List Frame := [.native { method := ⟨0, 0⟩, args := #[] }]
def about1 : State := aboutOver below0
def p0 : Program := .bare "" "" ""
def e0 : Env := launch0.env 0 0 0
theorem w_frames : about1.frames = Frame.invoking theMethod args0 :: below0 := rfl
set_option maxRecDepth 65536 in
theorem w_args : argsFit about1.vm theMethod args0 = true := by decide +kernel
set_option maxRecDepth 65536 in
theorem w_heap : heapFits about1 = true := by decide +kernel
set_option maxRecDepth 65536 in
theorem w_runnable : about1.curStatus? = some .runnable := by decide +kernel
set_option maxRecDepth 65536 in
theorem w_alone : about1.alone = true := by decide +kernel
set_option maxRecDepth 65536 in
theorem w_named : about1.methodNamed? x = some theMethod := by decide +kernel
set_option maxRecDepth 65536 in
theorem w_hears : about1.hears theMethod below0 = true := by decide +kernel
set_option maxRecDepth 65536 in
theorem w_ripe : about1.ripe theMethod args0 below0 = true := by decide +kernel
theorem w_running : about1.status = .running := rfl
set_option maxRecDepth 65536 in
theorem w_room : about1.hasRoom e0.platform room_1 = true :=
  launch0.hasRoom_least _ room_1 (by decide +kernel) (by decide +kernel) (by decide +kernel) (by decide +kernel) (by decide +kernel) (by decide +kernel)
theorem allAtoms_all (ts : List Jvm.Cond) (a : Array Jvm.Value) (st : Jvm.State) : (allAtoms ts).before a st = ts.all (fun c => c.before a st) := by
  induction ts with
  | nil => rfl
  | cons c t ih =>
    show (Jvm.Cond.and c (allAtoms t)).before a st = _
    rw [Jvm.Cond.before_and, ih, List.all_cons]
def words1 : List Jvm.Cond := Jvm.Cond.code x code maxLocals ret :: tables_1
/-- a 'code' word, met by the world's own term for the bytes: nothing is compared byte by byte -/
theorem code_word {y : MethodName} {bytes : ByteArray} {mx : Nat} {rt : Option FieldType} {a : Array Value} {s : State} {m : MethodId} {meth : Method} {c : Code} (h1 : s.methodNamed? y = some m) (h2 : s.vm.method? m = some meth) (h3 : meth.code = some c) (h4 : c.code = bytes)
    (h5 : (c.maxLocals == mx && c.exceptionTable.isEmpty && decide (c.maxStack ≤ mostOperands) && decide (meth.sig.returnType = rt) && !meth.locks && decide (parseMethodDescriptor y.desc = some meth.sig)) = true) : (Jvm.Cond.code y bytes mx rt).before a s = true := by
  simp only [Bool.and_eq_true, beq_iff_eq, Bool.not_eq_true', decide_eq_true_eq] at h5
  obtain ⟨⟨⟨⟨⟨g1, g2⟩, g3⟩, g4⟩, g5⟩, g6⟩ := h5
  simp [Cond.before, Cond.holds, Cond.value, h1, h2, h3, h4, g1, g2, g3, g4, g5, g6]
def isCode : Jvm.Cond → Bool
  | .code _ _ _ _ => true
  | _ => false
theorem all_split {L : List Jvm.Cond} {P : Jvm.Cond → Bool} (h1 : L.all (fun c => isCode c || P c) = true) (h2 : ∀ c ∈ L.filter isCode, P c = true) : L.all P = true := by
  refine List.all_eq_true.mpr fun c hc => ?_
  have h := List.all_eq_true.mp h1 c hc
  rcases Bool.eq_false_or_eq_true (isCode c) with hi | hi
  · exact h2 c (List.mem_filter.mpr ⟨hc, hi⟩)
  · simpa [hi] using h
set_option maxRecDepth 65536 in
theorem w_c0 : (Jvm.Cond.code x code maxLocals ret).before args0 about1 = true := code_word (m := ⟨1, 1⟩) (meth := k1m1) (c := k1c1) (by decide +kernel) rfl rfl rfl (by decide +kernel)
set_option maxRecDepth 65536 in
theorem w_c1 : (Jvm.Cond.code ({ cls := "com/example/weaverbird/weaverbird/format/ConfigurationChoice", name := "<init>", desc := "()V" } : Jvm.MethodName) prog_37_method_1_code (1 : Nat) (Option.none : Option Jvm.ClassFile.FieldType)).before args0 about1 = true := code_word (m := ⟨2, 0⟩) (meth := k2m0) (c := k2c0) (by decide +kernel) rfl rfl rfl (by decide +kernel)
set_option maxRecDepth 65536 in
theorem w_c2 : (Jvm.Cond.code ({ cls := "java/lang/Object", name := "<init>", desc := "()V" } : Jvm.MethodName) object_method_1_code (1 : Nat) (Option.none : Option Jvm.ClassFile.FieldType)).before args0 about1 = true := code_word (m := ⟨0, 0⟩) (meth := k0m0) (c := k0c0) (by decide +kernel) rfl rfl rfl (by decide +kernel)
set_option maxRecDepth 65536 in
theorem w_c3 : (Jvm.Cond.code ({ cls := "com/example/weaverbird/weaverbird/format/ConfigurationChoice", name := "ofEntry", desc := "(IZZ)I" } : Jvm.MethodName) prog_37_method_8_code (5 : Nat) (Option.some Jvm.ClassFile.FieldType.int)).before args0 about1 = true := code_word (m := ⟨2, 1⟩) (meth := k2m1) (c := k2c1) (by decide +kernel) rfl rfl rfl (by decide +kernel)
set_option maxRecDepth 65536 in
theorem w_c4 : (Jvm.Cond.code ({ cls := "com/example/weaverbird/weaverbird/format/ConfigurationChoice", name := "isSettled", desc := "(I)Z" } : Jvm.MethodName) prog_37_method_10_code (2 : Nat) (Option.some Jvm.ClassFile.FieldType.boolean)).before args0 about1 = true := code_word (m := ⟨2, 2⟩) (meth := k2m2) (c := k2c2) (by decide +kernel) rfl rfl rfl (by decide +kernel)
def codes1 : List Jvm.Cond := [Jvm.Cond.code x code maxLocals ret, Jvm.Cond.code ({ cls := "com/example/weaverbird/weaverbird/format/ConfigurationChoice", name := "<init>", desc := "()V" } : Jvm.MethodName) prog_37_method_1_code (1 : Nat) (Option.none : Option Jvm.ClassFile.FieldType), Jvm.Cond.code ({ cls := "java/lang/Object", name := "<init>", desc := "()V" } : Jvm.MethodName) object_method_1_code (1 : Nat) (Option.none : Option Jvm.ClassFile.FieldType), Jvm.Cond.code ({ cls := "com/example/weaverbird/weaverbird/format/ConfigurationChoice", name := "ofEntry", desc := "(IZZ)I" } : Jvm.MethodName) prog_37_method_8_code (5 : Nat) (Option.some Jvm.ClassFile.FieldType.int), Jvm.Cond.code ({ cls := "com/example/weaverbird/weaverbird/format/ConfigurationChoice", name := "isSettled", desc := "(I)Z" } : Jvm.MethodName) prog_37_method_10_code (2 : Nat) (Option.some Jvm.ClassFile.FieldType.boolean)]
set_option maxRecDepth 65536 in
theorem codes_eq : words1.filter isCode = codes1 := rfl
theorem w_codes : ∀ c ∈ words1.filter isCode, c.before args0 about1 = true := by
  rw [codes_eq]
  intro c hc
  simp only [codes1, List.mem_cons, List.not_mem_nil, or_false] at hc
  rcases hc with rfl | rfl | rfl | rfl | rfl
  · exact w_c0
  · exact w_c1
  · exact w_c2
  · exact w_c3
  · exact w_c4
set_option maxRecDepth 65536 in
theorem w_t1 : words1.all (fun c => isCode c || c.before args0 about1) = true := by decide +kernel
theorem w_tables : (allAtoms (Jvm.Cond.code x code maxLocals ret :: tables_1)).before args0 about1 = true := by
  rw [allAtoms_all]
  show words1.all (fun c => c.before args0 about1) = true
  refine all_split ?_ w_codes
  rw [w_t1]
set_option maxRecDepth 65536 in
theorem w_case : (Jvm.Cond.and given_1 narrow_1).before args0 about1 = true := by decide +kernel
theorem w_applies : (headSpec (Jvm.Cond.code x code maxLocals ret :: tables_1) room_1).applies x e0.platform about1 = true :=
  (Spec.applies_iff w_frames).mpr ⟨w_running, w_runnable, w_alone, w_named, w_hears, w_ripe, w_room, w_tables⟩
theorem atStart : AtStart classFile x code maxLocals ret World_1 tables_1 room_1 Calls_1 rest_1 Pre_1 launch0 p0 e0 about1 theMethod args0 below0 :=
  ⟨lists_1, trivial, launch0.admits_env _ _ _, launch0.least_env, fairChoices_fair.cas, fairChoices_fair.clock, w_frames, w_args, w_heap, w_applies, trivial, trivial, w_case⟩
end start1
theorem witness_1 : WitnessClaimed_1 := ⟨start1.p0, start1.e0, start1.about1, start1.theMethod, start1.args0, start1.below0, start1.atStart⟩
end Jvm.Pilot.@@N@@
