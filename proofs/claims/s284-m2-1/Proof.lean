import JvmDerived
import JvmDerived.Pilot.@@N@@Statement
import JvmDerived.Pilot.@@N@@Code
set_option linter.unusedVariables false
set_option linter.unusedSimpArgs false
namespace Jvm.RoadKit
open Sem ClassFile Op Lib Jvm.Stand Jvm.Free Jvm.LawKit
section New
variable {p : Program} {l : Launch} {e : Env} {R : Room} {s : State} {m : MethodId} {args : Array Value} {below : List Frame} {meth : Method} {c : Code} {T : State} {locs : List Loc} {cells slots : Nat}
theorem retI (X : Stand p l e R s m args below meth c T locs cells slots) (hx : p.tables.exec = Jvm.exec) {pc : Nat} {Ls : Array Slot} {z : Int32} {rest : List Value} (hret : meth.sig.returnType = some .int) (hd : decode c.code pc = .ok (.ireturn, 1)) {fs : List Frame}
    (hl : ∀ (f : JFrame) (acts : List Action), f.method = m → f.locked = none → f.entered = [] → (doReturn e (T.setTop f) acts (some (.int z))).1 = T.setFrames fs) : Steps p.tables e below (T.setTop (mkF m pc Ls (.int z :: rest))) (T.setFrames fs) := by
  have hm' : T.vm.method? m = some meth := X.method'
  have hn : narrow .int (.int z) = .int z := rfl
  show Steps p.tables e below (T.setTop { method := m, pc := pc, locals := Ls, stack := _ :: rest, locked := none }) _
  jvm_step X.here [X.here.top, hx, hd, hm', hret, hn]
  first | (intro acts; rw [hl _ acts rfl rfl rfl]) | rw [hl _ _ rfl rfl rfl]
  exact Steps.refl _
end New
end Jvm.RoadKit
namespace Jvm.Pilot.@@N@@
open Jvm Jvm.ClassFile Sem Op Lib Jvm.Free Jvm.Stand Jvm.LawKit Jvm.RoadKit Bundle Jvm.Pilot.@@N@@.Jvm.D

theorem pn_0 : plainName "com/example/ringward/ringward/Utf8" = true := by first | (simp [plainName, overriddenIn]; done) | decide +kernel
theorem d1_0 : decode prog_14_method_6_code 0 = .ok (.iload_n 0, 1) := by decide +kernel
theorem d1_1 : decode prog_14_method_6_code 1 = .ok (.sipush 128, 3) := by decide +kernel
theorem d1_4 : decode prog_14_method_6_code 4 = .ok (.if_icmp .ge 8, 3) := by decide +kernel
theorem d1_7 : decode prog_14_method_6_code 7 = .ok (.iconst 1, 1) := by decide +kernel
theorem d1_8 : decode prog_14_method_6_code 8 = .ok (.istore_n 1, 1) := by decide +kernel
theorem d1_9 : decode prog_14_method_6_code 9 = .ok (.goto 28, 3) := by decide +kernel
theorem d1_12 : decode prog_14_method_6_code 12 = .ok (.iload_n 0, 1) := by decide +kernel
theorem d1_13 : decode prog_14_method_6_code 13 = .ok (.sipush 2048, 3) := by decide +kernel
theorem d1_16 : decode prog_14_method_6_code 16 = .ok (.if_icmp .ge 8, 3) := by decide +kernel
theorem d1_19 : decode prog_14_method_6_code 19 = .ok (.iconst 2, 1) := by decide +kernel
theorem d1_20 : decode prog_14_method_6_code 20 = .ok (.istore_n 1, 1) := by decide +kernel
theorem d1_21 : decode prog_14_method_6_code 21 = .ok (.goto 16, 3) := by decide +kernel
theorem d1_24 : decode prog_14_method_6_code 24 = .ok (.iload_n 0, 1) := by decide +kernel
theorem d1_25 : decode prog_14_method_6_code 25 = .ok (.ldc 47, 2) := by decide +kernel
theorem d1_27 : decode prog_14_method_6_code 27 = .ok (.if_icmp .ge 8, 3) := by decide +kernel
theorem d1_30 : decode prog_14_method_6_code 30 = .ok (.iconst 3, 1) := by decide +kernel
theorem d1_31 : decode prog_14_method_6_code 31 = .ok (.istore_n 1, 1) := by decide +kernel
theorem d1_32 : decode prog_14_method_6_code 32 = .ok (.goto 5, 3) := by decide +kernel
theorem d1_35 : decode prog_14_method_6_code 35 = .ok (.iconst 4, 1) := by decide +kernel
theorem d1_36 : decode prog_14_method_6_code 36 = .ok (.istore_n 1, 1) := by decide +kernel
theorem d1_37 : decode prog_14_method_6_code 37 = .ok (.iload_n 1, 1) := by decide +kernel
theorem d1_38 : decode prog_14_method_6_code 38 = .ok (.ireturn, 1) := by decide +kernel
theorem ef_1 (m : MethodId) (x0 : Int32) : entryFrame m #[(.int x0)] 2 = mkF m 0 #[.val (.int x0), .unset] [] := by first | (simp [entryFrame, mkF, argsToLocals, Value.category]; done) | rfl
def f1 (p1 : Int32) : Int32 := (if p1 < (128 : Int32) then (1 : Int32) else (if p1 < (2048 : Int32) then (2 : Int32) else (if p1 < (65536 : Int32) then (3 : Int32) else (4 : Int32))))
def Q1 (Z : State) (p1 : Int32) (h0 : Heap) (n0 : Nat) (v : Option Value) (h : Heap) (L : List Loc) : Prop := v = some (.int (f1 p1)) ∧ Fr n0 L ∧ h = h0
set_option maxRecDepth 65536 in
set_option maxHeartbeats 40000000 in
theorem rm1 (l : Launch) (Z : State) (a0 : Array Value) (hw : ∀ d ∈ tables_1, d.before a0 Z = true) (ws : List Jvm.Cond) (p1 : Int32) (h0 : Heap) (n0 : Nat) (Z0 : n0 ≤ h0.size) :
    MetFree l (⟨"com/example/ringward/ringward/Utf8", "length", "(I)I"⟩ : MethodName) (head1 (Jvm.Cond.code (⟨"com/example/ringward/ringward/Utf8", "length", "(I)I"⟩ : MethodName) prog_14_method_6_code 2 (some .int) :: ws) ({ frames := 0, cells := 0, slots := 0, locals := 0 } : Room)) (fun a U => a = #[(.int p1)] ∧ Z.Warmed39 U.vm ∧ U.heap = h0) (fun _ _ _ _ _ => True) (fun _ U o U' => ∃ v L, o = .returned v ∧ Q1 Z p1 h0 n0 v U'.heap L ∧ FrameEnd U o U' L ({ frames := 0, cells := 0, slots := 0, locals := 0 } : Room).cells ({ frames := 0, cells := 0, slots := 0, locals := 0 } : Room).slots) := by
  refine MetFree.of_bodySF (plainFor_of_name pn_0) hisR ?_
  intro p e s m args below meth c s₁ Bd hml0 hP hK
  obtain ⟨rfl, hZ, hh⟩ := hP
  have hx := Bd.exec
  have hby := Bd.bytes
  have hml : c.maxLocals = 2 := hml0
  have hown : s.vm.findClass "com/example/ringward/ringward/Utf8" = some m.cls := findClass_of_methodNamed Bd.named
  have hnm := (name_of_methodNamed Bd.named Bd.method).1
  have X0 : Stand p l e ({ frames := 0, cells := 0, slots := 0, locals := 0 } : Room) s m #[(.int p1)] below meth c s₁ [] 0 0 := Stand.of_body Bd
  have e0 : s₁.heap = h0 := by rw [← hh, Bd.state]; rfl
  have N0 := Fr.nil n0
  have pre0 : ∀ t, Steps p.tables e below (s₁.setTop (mkF m 0 #[.val (.int p1), .unset] [])) t → Steps p.tables e below (s₁.setTop (entryFrame m #[(.int p1)] 2)) t := fun t k => castTop (ef_1 m p1) k
  have pre1 : ∀ t, Steps p.tables e below (s₁.setTop (mkF m 4 #[.val (.int p1), .unset] [(.int (128 : Int32)), (.int p1)])) t → Steps p.tables e below (s₁.setTop (entryFrame m #[(.int p1)] 2)) t := by
    intro t k
    refine pre0 t ?_
    show Steps p.tables e below (s₁.setTop (mkF m 0 #[.val (.int p1), .unset] [])) _
    refine XS.iloadN X0.here hx rfl (hb hby d1_0) rfl ?_
    show Steps p.tables e below (s₁.setTop (mkF m 1 #[.val (.int p1), .unset] [(.int p1)])) _
    refine XS.sipush X0.here hx rfl (hb hby d1_1) ?_
    exact k
  by_cases hc4 : p1 < (128 : Int32)
  · have eq2 : (f1 p1) = (1 : Int32) := by unfold f1; simp only [if_pos hc4]
    obtain ⟨fs, hr, hrun, hended, hW, hsame⟩ := X0.leave (v := some (.int (1 : Int32))) (fun h => by rw [Bd.returns] at h; cases h)
    refine ⟨_, _, pre1 _ ?_, hrun, hended, _, _, rfl, ?_, ⟨_, rfl⟩, hW, hsame.mono (by decide) (by decide)⟩
    · show Steps p.tables e below (s₁.setTop (mkF m 4 #[.val (.int p1), .unset] [(.int (128 : Int32)), (.int p1)])) _
      refine XS.icmpNo X0.here hx rfl (hb hby d1_4) rfl (tlt hc4).2.1 ?_
      show Steps p.tables e below (s₁.setTop (mkF m 7 #[.val (.int p1), .unset] [])) _
      refine XS.iconst X0.here hx rfl (hb hby d1_7) ?_
      show Steps p.tables e below (s₁.setTop (mkF m 8 #[.val (.int p1), .unset] [(.int (1 : Int32))])) _
      refine XS.istoreN X0.here hx rfl (hb hby d1_8) rfl (l' := #[.val (.int p1), .val (.int (1 : Int32))]) rfl ?_
      show Steps p.tables e below (s₁.setTop (mkF m 9 #[.val (.int p1), .val (.int (1 : Int32))] [])) _
      refine XS.goto X0.here hx rfl (pc0 := 9) (pc' := 37) rfl (hb hby d1_9) (by decide) (by decide) ?_
      show Steps p.tables e below (s₁.setTop (mkF m 37 #[.val (.int p1), .val (.int (1 : Int32))] [])) _
      refine XS.iloadN X0.here hx rfl (hb hby d1_37) rfl ?_
      show Steps p.tables e below (s₁.setTop (mkF m 38 #[.val (.int p1), .val (.int (1 : Int32))] [(.int (1 : Int32))])) _
      exact retI X0 hx Bd.returns (hb hby d1_38) hr
    · show Q1 Z p1 h0 n0 _ s₁.heap _
      rw [e0]
      exact ⟨by rw [eq2], N0, rfl⟩
  · have pre3 : ∀ t, Steps p.tables e below (s₁.setTop (mkF m 16 #[.val (.int p1), .unset] [(.int (2048 : Int32)), (.int p1)])) t → Steps p.tables e below (s₁.setTop (entryFrame m #[(.int p1)] 2)) t := by
      intro t k
      refine pre1 t ?_
      show Steps p.tables e below (s₁.setTop (mkF m 4 #[.val (.int p1), .unset] [(.int (128 : Int32)), (.int p1)])) _
      refine XS.icmpYes X0.here hx rfl (pc0 := 4) (pc' := 12) rfl (hb hby d1_4) rfl (flt hc4).2.1 (by decide) (by decide) ?_
      show Steps p.tables e below (s₁.setTop (mkF m 12 #[.val (.int p1), .unset] [])) _
      refine XS.iloadN X0.here hx rfl (hb hby d1_12) rfl ?_
      show Steps p.tables e below (s₁.setTop (mkF m 13 #[.val (.int p1), .unset] [(.int p1)])) _
      refine XS.sipush X0.here hx rfl (hb hby d1_13) ?_
      exact k
    by_cases hc16 : p1 < (2048 : Int32)
    · have eq4 : (f1 p1) = (2 : Int32) := by unfold f1; simp only [if_neg hc4, if_pos hc16]
      obtain ⟨fs, hr, hrun, hended, hW, hsame⟩ := X0.leave (v := some (.int (2 : Int32))) (fun h => by rw [Bd.returns] at h; cases h)
      refine ⟨_, _, pre3 _ ?_, hrun, hended, _, _, rfl, ?_, ⟨_, rfl⟩, hW, hsame.mono (by decide) (by decide)⟩
      · show Steps p.tables e below (s₁.setTop (mkF m 16 #[.val (.int p1), .unset] [(.int (2048 : Int32)), (.int p1)])) _
        refine XS.icmpNo X0.here hx rfl (hb hby d1_16) rfl (tlt hc16).2.1 ?_
        show Steps p.tables e below (s₁.setTop (mkF m 19 #[.val (.int p1), .unset] [])) _
        refine XS.iconst X0.here hx rfl (hb hby d1_19) ?_
        show Steps p.tables e below (s₁.setTop (mkF m 20 #[.val (.int p1), .unset] [(.int (2 : Int32))])) _
        refine XS.istoreN X0.here hx rfl (hb hby d1_20) rfl (l' := #[.val (.int p1), .val (.int (2 : Int32))]) rfl ?_
        show Steps p.tables e below (s₁.setTop (mkF m 21 #[.val (.int p1), .val (.int (2 : Int32))] [])) _
        refine XS.goto X0.here hx rfl (pc0 := 21) (pc' := 37) rfl (hb hby d1_21) (by decide) (by decide) ?_
        show Steps p.tables e below (s₁.setTop (mkF m 37 #[.val (.int p1), .val (.int (2 : Int32))] [])) _
        refine XS.iloadN X0.here hx rfl (hb hby d1_37) rfl ?_
        show Steps p.tables e below (s₁.setTop (mkF m 38 #[.val (.int p1), .val (.int (2 : Int32))] [(.int (2 : Int32))])) _
        exact retI X0 hx Bd.returns (hb hby d1_38) hr
      · show Q1 Z p1 h0 n0 _ s₁.heap _
        rw [e0]
        exact ⟨by rw [eq4], N0, rfl⟩
    · have pre5 : ∀ t, Steps p.tables e below (s₁.setTop (mkF m 27 #[.val (.int p1), .unset] [(.int (65536 : Int32)), (.int p1)])) t → Steps p.tables e below (s₁.setTop (entryFrame m #[(.int p1)] 2)) t := by
        intro t k
        refine pre3 t ?_
        show Steps p.tables e below (s₁.setTop (mkF m 16 #[.val (.int p1), .unset] [(.int (2048 : Int32)), (.int p1)])) _
        refine XS.icmpYes X0.here hx rfl (pc0 := 16) (pc' := 24) rfl (hb hby d1_16) rfl (flt hc16).2.1 (by decide) (by decide) ?_
        show Steps p.tables e below (s₁.setTop (mkF m 24 #[.val (.int p1), .unset] [])) _
        refine XS.iloadN X0.here hx rfl (hb hby d1_24) rfl ?_
        show Steps p.tables e below (s₁.setTop (mkF m 25 #[.val (.int p1), .unset] [(.int p1)])) _
        refine X0.ldcInt hx hown (mvT hZ (hw _ (List.mem_of_getElem? (i := 9) rfl))) (g := (mkF m 25 #[.val (.int p1), .unset] [(.int p1)])) rfl (hb hby d1_25) _ ?_
        exact k
      by_cases hc27 : p1 < (65536 : Int32)
      · have eq6 : (f1 p1) = (3 : Int32) := by unfold f1; simp only [if_neg hc4, if_neg hc16, if_pos hc27]
        obtain ⟨fs, hr, hrun, hended, hW, hsame⟩ := X0.leave (v := some (.int (3 : Int32))) (fun h => by rw [Bd.returns] at h; cases h)
        refine ⟨_, _, pre5 _ ?_, hrun, hended, _, _, rfl, ?_, ⟨_, rfl⟩, hW, hsame.mono (by decide) (by decide)⟩
        · show Steps p.tables e below (s₁.setTop (mkF m 27 #[.val (.int p1), .unset] [(.int (65536 : Int32)), (.int p1)])) _
          refine XS.icmpNo X0.here hx rfl (hb hby d1_27) rfl (tlt hc27).2.1 ?_
          show Steps p.tables e below (s₁.setTop (mkF m 30 #[.val (.int p1), .unset] [])) _
          refine XS.iconst X0.here hx rfl (hb hby d1_30) ?_
          show Steps p.tables e below (s₁.setTop (mkF m 31 #[.val (.int p1), .unset] [(.int (3 : Int32))])) _
          refine XS.istoreN X0.here hx rfl (hb hby d1_31) rfl (l' := #[.val (.int p1), .val (.int (3 : Int32))]) rfl ?_
          show Steps p.tables e below (s₁.setTop (mkF m 32 #[.val (.int p1), .val (.int (3 : Int32))] [])) _
          refine XS.goto X0.here hx rfl (pc0 := 32) (pc' := 37) rfl (hb hby d1_32) (by decide) (by decide) ?_
          show Steps p.tables e below (s₁.setTop (mkF m 37 #[.val (.int p1), .val (.int (3 : Int32))] [])) _
          refine XS.iloadN X0.here hx rfl (hb hby d1_37) rfl ?_
          show Steps p.tables e below (s₁.setTop (mkF m 38 #[.val (.int p1), .val (.int (3 : Int32))] [(.int (3 : Int32))])) _
          exact retI X0 hx Bd.returns (hb hby d1_38) hr
        · show Q1 Z p1 h0 n0 _ s₁.heap _
          rw [e0]
          exact ⟨by rw [eq6], N0, rfl⟩
      · have eq7 : (f1 p1) = (4 : Int32) := by unfold f1; simp only [if_neg hc4, if_neg hc16, if_neg hc27]
        obtain ⟨fs, hr, hrun, hended, hW, hsame⟩ := X0.leave (v := some (.int (4 : Int32))) (fun h => by rw [Bd.returns] at h; cases h)
        refine ⟨_, _, pre5 _ ?_, hrun, hended, _, _, rfl, ?_, ⟨_, rfl⟩, hW, hsame.mono (by decide) (by decide)⟩
        · show Steps p.tables e below (s₁.setTop (mkF m 27 #[.val (.int p1), .unset] [(.int (65536 : Int32)), (.int p1)])) _
          refine XS.icmpYes X0.here hx rfl (pc0 := 27) (pc' := 35) rfl (hb hby d1_27) rfl (flt hc27).2.1 (by decide) (by decide) ?_
          show Steps p.tables e below (s₁.setTop (mkF m 35 #[.val (.int p1), .unset] [])) _
          refine XS.iconst X0.here hx rfl (hb hby d1_35) ?_
          show Steps p.tables e below (s₁.setTop (mkF m 36 #[.val (.int p1), .unset] [(.int (4 : Int32))])) _
          refine XS.istoreN X0.here hx rfl (hb hby d1_36) rfl (l' := #[.val (.int p1), .val (.int (4 : Int32))]) rfl ?_
          show Steps p.tables e below (s₁.setTop (mkF m 37 #[.val (.int p1), .val (.int (4 : Int32))] [])) _
          refine XS.iloadN X0.here hx rfl (hb hby d1_37) rfl ?_
          show Steps p.tables e below (s₁.setTop (mkF m 38 #[.val (.int p1), .val (.int (4 : Int32))] [(.int (4 : Int32))])) _
          exact retI X0 hx Bd.returns (hb hby d1_38) hr
        · show Q1 Z p1 h0 n0 _ s₁.heap _
          rw [e0]
          exact ⟨by rw [eq7], N0, rfl⟩
theorem d2_0 : decode prog_14_method_5_code 0 = .ok (.iload_n 0, 1) := by decide +kernel
theorem d2_1 : decode prog_14_method_5_code 1 = .ok (.sipush 128, 3) := by decide +kernel
theorem d2_4 : decode prog_14_method_5_code 4 = .ok (.if_icmp .ge 8, 3) := by decide +kernel
theorem d2_7 : decode prog_14_method_5_code 7 = .ok (.iload_n 0, 1) := by decide +kernel
theorem d2_8 : decode prog_14_method_5_code 8 = .ok (.istore_n 1, 1) := by decide +kernel
theorem d2_9 : decode prog_14_method_5_code 9 = .ok (.goto 130, 3) := by decide +kernel
theorem d2_12 : decode prog_14_method_5_code 12 = .ok (.iload_n 0, 1) := by decide +kernel
theorem d2_13 : decode prog_14_method_5_code 13 = .ok (.sipush 2048, 3) := by decide +kernel
theorem d2_16 : decode prog_14_method_5_code 16 = .ok (.if_icmp .ge 27, 3) := by decide +kernel
theorem d2_19 : decode prog_14_method_5_code 19 = .ok (.sipush 192, 3) := by decide +kernel
theorem d2_22 : decode prog_14_method_5_code 22 = .ok (.iload_n 0, 1) := by decide +kernel
theorem d2_23 : decode prog_14_method_5_code 23 = .ok (.bipush 6, 2) := by decide +kernel
theorem d2_25 : decode prog_14_method_5_code 25 = .ok (.iushr, 1) := by decide +kernel
theorem d2_26 : decode prog_14_method_5_code 26 = .ok (.ior, 1) := by decide +kernel
theorem d2_27 : decode prog_14_method_5_code 27 = .ok (.sipush 128, 3) := by decide +kernel
theorem d2_30 : decode prog_14_method_5_code 30 = .ok (.iload_n 0, 1) := by decide +kernel
theorem d2_31 : decode prog_14_method_5_code 31 = .ok (.bipush 63, 2) := by decide +kernel
theorem d2_33 : decode prog_14_method_5_code 33 = .ok (.iand, 1) := by decide +kernel
theorem d2_34 : decode prog_14_method_5_code 34 = .ok (.ior, 1) := by decide +kernel
theorem d2_35 : decode prog_14_method_5_code 35 = .ok (.bipush 8, 2) := by decide +kernel
theorem d2_37 : decode prog_14_method_5_code 37 = .ok (.ishl, 1) := by decide +kernel
theorem d2_38 : decode prog_14_method_5_code 38 = .ok (.ior, 1) := by decide +kernel
theorem d2_39 : decode prog_14_method_5_code 39 = .ok (.istore_n 1, 1) := by decide +kernel
theorem d2_40 : decode prog_14_method_5_code 40 = .ok (.goto 99, 3) := by decide +kernel
theorem d2_43 : decode prog_14_method_5_code 43 = .ok (.iload_n 0, 1) := by decide +kernel
theorem d2_44 : decode prog_14_method_5_code 44 = .ok (.ldc 47, 2) := by decide +kernel
theorem d2_46 : decode prog_14_method_5_code 46 = .ok (.if_icmp .ge 42, 3) := by decide +kernel
theorem d2_49 : decode prog_14_method_5_code 49 = .ok (.sipush 224, 3) := by decide +kernel
theorem d2_52 : decode prog_14_method_5_code 52 = .ok (.iload_n 0, 1) := by decide +kernel
theorem d2_53 : decode prog_14_method_5_code 53 = .ok (.bipush 12, 2) := by decide +kernel
theorem d2_55 : decode prog_14_method_5_code 55 = .ok (.iushr, 1) := by decide +kernel
theorem d2_56 : decode prog_14_method_5_code 56 = .ok (.ior, 1) := by decide +kernel
theorem d2_57 : decode prog_14_method_5_code 57 = .ok (.sipush 128, 3) := by decide +kernel
theorem d2_60 : decode prog_14_method_5_code 60 = .ok (.iload_n 0, 1) := by decide +kernel
theorem d2_61 : decode prog_14_method_5_code 61 = .ok (.bipush 6, 2) := by decide +kernel
theorem d2_63 : decode prog_14_method_5_code 63 = .ok (.iushr, 1) := by decide +kernel
theorem d2_64 : decode prog_14_method_5_code 64 = .ok (.bipush 63, 2) := by decide +kernel
theorem d2_66 : decode prog_14_method_5_code 66 = .ok (.iand, 1) := by decide +kernel
theorem d2_67 : decode prog_14_method_5_code 67 = .ok (.ior, 1) := by decide +kernel
theorem d2_68 : decode prog_14_method_5_code 68 = .ok (.bipush 8, 2) := by decide +kernel
theorem d2_70 : decode prog_14_method_5_code 70 = .ok (.ishl, 1) := by decide +kernel
theorem d2_71 : decode prog_14_method_5_code 71 = .ok (.ior, 1) := by decide +kernel
theorem d2_72 : decode prog_14_method_5_code 72 = .ok (.sipush 128, 3) := by decide +kernel
theorem d2_75 : decode prog_14_method_5_code 75 = .ok (.iload_n 0, 1) := by decide +kernel
theorem d2_76 : decode prog_14_method_5_code 76 = .ok (.bipush 63, 2) := by decide +kernel
theorem d2_78 : decode prog_14_method_5_code 78 = .ok (.iand, 1) := by decide +kernel
theorem d2_79 : decode prog_14_method_5_code 79 = .ok (.ior, 1) := by decide +kernel
theorem d2_80 : decode prog_14_method_5_code 80 = .ok (.bipush 16, 2) := by decide +kernel
theorem d2_82 : decode prog_14_method_5_code 82 = .ok (.ishl, 1) := by decide +kernel
theorem d2_83 : decode prog_14_method_5_code 83 = .ok (.ior, 1) := by decide +kernel
theorem d2_84 : decode prog_14_method_5_code 84 = .ok (.istore_n 1, 1) := by decide +kernel
theorem d2_85 : decode prog_14_method_5_code 85 = .ok (.goto 54, 3) := by decide +kernel
theorem d2_88 : decode prog_14_method_5_code 88 = .ok (.sipush 240, 3) := by decide +kernel
theorem d2_91 : decode prog_14_method_5_code 91 = .ok (.iload_n 0, 1) := by decide +kernel
theorem d2_92 : decode prog_14_method_5_code 92 = .ok (.bipush 18, 2) := by decide +kernel
theorem d2_94 : decode prog_14_method_5_code 94 = .ok (.iushr, 1) := by decide +kernel
theorem d2_95 : decode prog_14_method_5_code 95 = .ok (.ior, 1) := by decide +kernel
theorem d2_96 : decode prog_14_method_5_code 96 = .ok (.sipush 128, 3) := by decide +kernel
theorem d2_99 : decode prog_14_method_5_code 99 = .ok (.iload_n 0, 1) := by decide +kernel
theorem d2_100 : decode prog_14_method_5_code 100 = .ok (.bipush 12, 2) := by decide +kernel
theorem d2_102 : decode prog_14_method_5_code 102 = .ok (.iushr, 1) := by decide +kernel
theorem d2_103 : decode prog_14_method_5_code 103 = .ok (.bipush 63, 2) := by decide +kernel
theorem d2_105 : decode prog_14_method_5_code 105 = .ok (.iand, 1) := by decide +kernel
theorem d2_106 : decode prog_14_method_5_code 106 = .ok (.ior, 1) := by decide +kernel
theorem d2_107 : decode prog_14_method_5_code 107 = .ok (.bipush 8, 2) := by decide +kernel
theorem d2_109 : decode prog_14_method_5_code 109 = .ok (.ishl, 1) := by decide +kernel
theorem d2_110 : decode prog_14_method_5_code 110 = .ok (.ior, 1) := by decide +kernel
theorem d2_111 : decode prog_14_method_5_code 111 = .ok (.sipush 128, 3) := by decide +kernel
theorem d2_114 : decode prog_14_method_5_code 114 = .ok (.iload_n 0, 1) := by decide +kernel
theorem d2_115 : decode prog_14_method_5_code 115 = .ok (.bipush 6, 2) := by decide +kernel
theorem d2_117 : decode prog_14_method_5_code 117 = .ok (.iushr, 1) := by decide +kernel
theorem d2_118 : decode prog_14_method_5_code 118 = .ok (.bipush 63, 2) := by decide +kernel
theorem d2_120 : decode prog_14_method_5_code 120 = .ok (.iand, 1) := by decide +kernel
theorem d2_121 : decode prog_14_method_5_code 121 = .ok (.ior, 1) := by decide +kernel
theorem d2_122 : decode prog_14_method_5_code 122 = .ok (.bipush 16, 2) := by decide +kernel
theorem d2_124 : decode prog_14_method_5_code 124 = .ok (.ishl, 1) := by decide +kernel
theorem d2_125 : decode prog_14_method_5_code 125 = .ok (.ior, 1) := by decide +kernel
theorem d2_126 : decode prog_14_method_5_code 126 = .ok (.sipush 128, 3) := by decide +kernel
theorem d2_129 : decode prog_14_method_5_code 129 = .ok (.iload_n 0, 1) := by decide +kernel
theorem d2_130 : decode prog_14_method_5_code 130 = .ok (.bipush 63, 2) := by decide +kernel
theorem d2_132 : decode prog_14_method_5_code 132 = .ok (.iand, 1) := by decide +kernel
theorem d2_133 : decode prog_14_method_5_code 133 = .ok (.ior, 1) := by decide +kernel
theorem d2_134 : decode prog_14_method_5_code 134 = .ok (.bipush 24, 2) := by decide +kernel
theorem d2_136 : decode prog_14_method_5_code 136 = .ok (.ishl, 1) := by decide +kernel
theorem d2_137 : decode prog_14_method_5_code 137 = .ok (.ior, 1) := by decide +kernel
theorem d2_138 : decode prog_14_method_5_code 138 = .ok (.istore_n 1, 1) := by decide +kernel
theorem d2_139 : decode prog_14_method_5_code 139 = .ok (.iload_n 1, 1) := by decide +kernel
theorem d2_140 : decode prog_14_method_5_code 140 = .ok (.ireturn, 1) := by decide +kernel
theorem ef_2 (m : MethodId) (x0 : Int32) : entryFrame m #[(.int x0)] 2 = mkF m 0 #[.val (.int x0), .unset] [] := by first | (simp [entryFrame, mkF, argsToLocals, Value.category]; done) | rfl
def f2_v39 (p1 : Int32) : Int32 := (((192 : Int32) ||| ((p1.toUInt32 >>> ((6 : Int32) &&& 31).toUInt32).toInt32)) ||| (((128 : Int32) ||| (p1 &&& (63 : Int32))) <<< ((8 : Int32) &&& 31)))
def f2_v84 (p1 : Int32) : Int32 := ((((224 : Int32) ||| ((p1.toUInt32 >>> ((12 : Int32) &&& 31).toUInt32).toInt32)) ||| (((128 : Int32) ||| (((p1.toUInt32 >>> ((6 : Int32) &&& 31).toUInt32).toInt32) &&& (63 : Int32))) <<< ((8 : Int32) &&& 31))) ||| (((128 : Int32) ||| (p1 &&& (63 : Int32))) <<< ((16 : Int32) &&& 31)))
def f2_v138 (p1 : Int32) : Int32 := (((((240 : Int32) ||| ((p1.toUInt32 >>> ((18 : Int32) &&& 31).toUInt32).toInt32)) ||| (((128 : Int32) ||| (((p1.toUInt32 >>> ((12 : Int32) &&& 31).toUInt32).toInt32) &&& (63 : Int32))) <<< ((8 : Int32) &&& 31))) ||| (((128 : Int32) ||| (((p1.toUInt32 >>> ((6 : Int32) &&& 31).toUInt32).toInt32) &&& (63 : Int32))) <<< ((16 : Int32) &&& 31))) ||| (((128 : Int32) ||| (p1 &&& (63 : Int32))) <<< ((24 : Int32) &&& 31)))
def f2 (p1 : Int32) : Int32 := (if p1 < (128 : Int32) then p1 else (if p1 < (2048 : Int32) then (f2_v39 p1) else (if p1 < (65536 : Int32) then (f2_v84 p1) else (f2_v138 p1))))
def Q2 (Z : State) (p1 : Int32) (h0 : Heap) (n0 : Nat) (v : Option Value) (h : Heap) (L : List Loc) : Prop := v = some (.int (f2 p1)) ∧ Fr n0 L ∧ h = h0
set_option maxRecDepth 65536 in
set_option maxHeartbeats 40000000 in
theorem rm2 (l : Launch) (Z : State) (a0 : Array Value) (hw : ∀ d ∈ tables_1, d.before a0 Z = true) (ws : List Jvm.Cond) (p1 : Int32) (h0 : Heap) (n0 : Nat) (Z0 : n0 ≤ h0.size) :
    MetFree l (⟨"com/example/ringward/ringward/Utf8", "encode", "(I)I"⟩ : MethodName) (head1 (Jvm.Cond.code (⟨"com/example/ringward/ringward/Utf8", "encode", "(I)I"⟩ : MethodName) prog_14_method_5_code 2 (some .int) :: ws) ({ frames := 0, cells := 0, slots := 0, locals := 0 } : Room)) (fun a U => a = #[(.int p1)] ∧ Z.Warmed39 U.vm ∧ U.heap = h0) (fun _ _ _ _ _ => True) (fun _ U o U' => ∃ v L, o = .returned v ∧ Q2 Z p1 h0 n0 v U'.heap L ∧ FrameEnd U o U' L ({ frames := 0, cells := 0, slots := 0, locals := 0 } : Room).cells ({ frames := 0, cells := 0, slots := 0, locals := 0 } : Room).slots) := by
  refine MetFree.of_bodySF (plainFor_of_name pn_0) hisR ?_
  intro p e s m args below meth c s₁ Bd hml0 hP hK
  obtain ⟨rfl, hZ, hh⟩ := hP
  have hx := Bd.exec
  have hby := Bd.bytes
  have hml : c.maxLocals = 2 := hml0
  have hown : s.vm.findClass "com/example/ringward/ringward/Utf8" = some m.cls := findClass_of_methodNamed Bd.named
  have hnm := (name_of_methodNamed Bd.named Bd.method).1
  have X0 : Stand p l e ({ frames := 0, cells := 0, slots := 0, locals := 0 } : Room) s m #[(.int p1)] below meth c s₁ [] 0 0 := Stand.of_body Bd
  have e0 : s₁.heap = h0 := by rw [← hh, Bd.state]; rfl
  have N0 := Fr.nil n0
  have pre0 : ∀ t, Steps p.tables e below (s₁.setTop (mkF m 0 #[.val (.int p1), .unset] [])) t → Steps p.tables e below (s₁.setTop (entryFrame m #[(.int p1)] 2)) t := fun t k => castTop (ef_2 m p1) k
  have pre1 : ∀ t, Steps p.tables e below (s₁.setTop (mkF m 4 #[.val (.int p1), .unset] [(.int (128 : Int32)), (.int p1)])) t → Steps p.tables e below (s₁.setTop (entryFrame m #[(.int p1)] 2)) t := by
    intro t k
    refine pre0 t ?_
    show Steps p.tables e below (s₁.setTop (mkF m 0 #[.val (.int p1), .unset] [])) _
    refine XS.iloadN X0.here hx rfl (hb hby d2_0) rfl ?_
    show Steps p.tables e below (s₁.setTop (mkF m 1 #[.val (.int p1), .unset] [(.int p1)])) _
    refine XS.sipush X0.here hx rfl (hb hby d2_1) ?_
    exact k
  by_cases hc4 : p1 < (128 : Int32)
  · have eq2 : (f2 p1) = p1 := by unfold f2; simp only [if_pos hc4]
    obtain ⟨fs, hr, hrun, hended, hW, hsame⟩ := X0.leave (v := some (.int p1)) (fun h => by rw [Bd.returns] at h; cases h)
    refine ⟨_, _, pre1 _ ?_, hrun, hended, _, _, rfl, ?_, ⟨_, rfl⟩, hW, hsame.mono (by decide) (by decide)⟩
    · show Steps p.tables e below (s₁.setTop (mkF m 4 #[.val (.int p1), .unset] [(.int (128 : Int32)), (.int p1)])) _
      refine XS.icmpNo X0.here hx rfl (hb hby d2_4) rfl (tlt hc4).2.1 ?_
      show Steps p.tables e below (s₁.setTop (mkF m 7 #[.val (.int p1), .unset] [])) _
      refine XS.iloadN X0.here hx rfl (hb hby d2_7) rfl ?_
      show Steps p.tables e below (s₁.setTop (mkF m 8 #[.val (.int p1), .unset] [(.int p1)])) _
      refine XS.istoreN X0.here hx rfl (hb hby d2_8) rfl (l' := #[.val (.int p1), .val (.int p1)]) rfl ?_
      show Steps p.tables e below (s₁.setTop (mkF m 9 #[.val (.int p1), .val (.int p1)] [])) _
      refine XS.goto X0.here hx rfl (pc0 := 9) (pc' := 139) rfl (hb hby d2_9) (by decide) (by decide) ?_
      show Steps p.tables e below (s₁.setTop (mkF m 139 #[.val (.int p1), .val (.int p1)] [])) _
      refine XS.iloadN X0.here hx rfl (hb hby d2_139) rfl ?_
      show Steps p.tables e below (s₁.setTop (mkF m 140 #[.val (.int p1), .val (.int p1)] [(.int p1)])) _
      exact retI X0 hx Bd.returns (hb hby d2_140) hr
    · show Q2 Z p1 h0 n0 _ s₁.heap _
      rw [e0]
      exact ⟨by rw [eq2], N0, rfl⟩
  · have pre3 : ∀ t, Steps p.tables e below (s₁.setTop (mkF m 16 #[.val (.int p1), .unset] [(.int (2048 : Int32)), (.int p1)])) t → Steps p.tables e below (s₁.setTop (entryFrame m #[(.int p1)] 2)) t := by
      intro t k
      refine pre1 t ?_
      show Steps p.tables e below (s₁.setTop (mkF m 4 #[.val (.int p1), .unset] [(.int (128 : Int32)), (.int p1)])) _
      refine XS.icmpYes X0.here hx rfl (pc0 := 4) (pc' := 12) rfl (hb hby d2_4) rfl (flt hc4).2.1 (by decide) (by decide) ?_
      show Steps p.tables e below (s₁.setTop (mkF m 12 #[.val (.int p1), .unset] [])) _
      refine XS.iloadN X0.here hx rfl (hb hby d2_12) rfl ?_
      show Steps p.tables e below (s₁.setTop (mkF m 13 #[.val (.int p1), .unset] [(.int p1)])) _
      refine XS.sipush X0.here hx rfl (hb hby d2_13) ?_
      exact k
    by_cases hc16 : p1 < (2048 : Int32)
    · have eq4 : (f2 p1) = (f2_v39 p1) := by unfold f2; simp only [if_neg hc4, if_pos hc16]
      obtain ⟨fs, hr, hrun, hended, hW, hsame⟩ := X0.leave (v := some (.int (f2_v39 p1))) (fun h => by rw [Bd.returns] at h; cases h)
      refine ⟨_, _, pre3 _ ?_, hrun, hended, _, _, rfl, ?_, ⟨_, rfl⟩, hW, hsame.mono (by decide) (by decide)⟩
      · show Steps p.tables e below (s₁.setTop (mkF m 16 #[.val (.int p1), .unset] [(.int (2048 : Int32)), (.int p1)])) _
        refine XS.icmpNo X0.here hx rfl (hb hby d2_16) rfl (tlt hc16).2.1 ?_
        show Steps p.tables e below (s₁.setTop (mkF m 19 #[.val (.int p1), .unset] [])) _
        refine XS.sipush X0.here hx rfl (hb hby d2_19) ?_
        show Steps p.tables e below (s₁.setTop (mkF m 22 #[.val (.int p1), .unset] [(.int (192 : Int32))])) _
        refine XS.iloadN X0.here hx rfl (hb hby d2_22) rfl ?_
        show Steps p.tables e below (s₁.setTop (mkF m 23 #[.val (.int p1), .unset] [(.int p1), (.int (192 : Int32))])) _
        refine XS.bipush X0.here hx rfl (hb hby d2_23) ?_
        show Steps p.tables e below (s₁.setTop (mkF m 25 #[.val (.int p1), .unset] [(.int (6 : Int32)), (.int p1), (.int (192 : Int32))])) _
        refine XS.iushr X0.here hx rfl (hb hby d2_25) rfl ?_
        show Steps p.tables e below (s₁.setTop (mkF m 26 #[.val (.int p1), .unset] [(.int ((p1.toUInt32 >>> ((6 : Int32) &&& 31).toUInt32).toInt32)), (.int (192 : Int32))])) _
        refine XS.ior X0.here hx rfl (hb hby d2_26) rfl ?_
        show Steps p.tables e below (s₁.setTop (mkF m 27 #[.val (.int p1), .unset] [(.int ((192 : Int32) ||| ((p1.toUInt32 >>> ((6 : Int32) &&& 31).toUInt32).toInt32)))])) _
        refine XS.sipush X0.here hx rfl (hb hby d2_27) ?_
        show Steps p.tables e below (s₁.setTop (mkF m 30 #[.val (.int p1), .unset] [(.int (128 : Int32)), (.int ((192 : Int32) ||| ((p1.toUInt32 >>> ((6 : Int32) &&& 31).toUInt32).toInt32)))])) _
        refine XS.iloadN X0.here hx rfl (hb hby d2_30) rfl ?_
        show Steps p.tables e below (s₁.setTop (mkF m 31 #[.val (.int p1), .unset] [(.int p1), (.int (128 : Int32)), (.int ((192 : Int32) ||| ((p1.toUInt32 >>> ((6 : Int32) &&& 31).toUInt32).toInt32)))])) _
        refine XS.bipush X0.here hx rfl (hb hby d2_31) ?_
        show Steps p.tables e below (s₁.setTop (mkF m 33 #[.val (.int p1), .unset] [(.int (63 : Int32)), (.int p1), (.int (128 : Int32)), (.int ((192 : Int32) ||| ((p1.toUInt32 >>> ((6 : Int32) &&& 31).toUInt32).toInt32)))])) _
        refine XS.iand X0.here hx rfl (hb hby d2_33) rfl ?_
        show Steps p.tables e below (s₁.setTop (mkF m 34 #[.val (.int p1), .unset] [(.int (p1 &&& (63 : Int32))), (.int (128 : Int32)), (.int ((192 : Int32) ||| ((p1.toUInt32 >>> ((6 : Int32) &&& 31).toUInt32).toInt32)))])) _
        refine XS.ior X0.here hx rfl (hb hby d2_34) rfl ?_
        show Steps p.tables e below (s₁.setTop (mkF m 35 #[.val (.int p1), .unset] [(.int ((128 : Int32) ||| (p1 &&& (63 : Int32)))), (.int ((192 : Int32) ||| ((p1.toUInt32 >>> ((6 : Int32) &&& 31).toUInt32).toInt32)))])) _
        refine XS.bipush X0.here hx rfl (hb hby d2_35) ?_
        show Steps p.tables e below (s₁.setTop (mkF m 37 #[.val (.int p1), .unset] [(.int (8 : Int32)), (.int ((128 : Int32) ||| (p1 &&& (63 : Int32)))), (.int ((192 : Int32) ||| ((p1.toUInt32 >>> ((6 : Int32) &&& 31).toUInt32).toInt32)))])) _
        refine XS.ishl X0.here hx rfl (hb hby d2_37) rfl ?_
        show Steps p.tables e below (s₁.setTop (mkF m 38 #[.val (.int p1), .unset] [(.int (((128 : Int32) ||| (p1 &&& (63 : Int32))) <<< ((8 : Int32) &&& 31))), (.int ((192 : Int32) ||| ((p1.toUInt32 >>> ((6 : Int32) &&& 31).toUInt32).toInt32)))])) _
        refine XS.ior X0.here hx rfl (hb hby d2_38) rfl ?_
        show Steps p.tables e below (s₁.setTop (mkF m 39 #[.val (.int p1), .unset] [(.int (((192 : Int32) ||| ((p1.toUInt32 >>> ((6 : Int32) &&& 31).toUInt32).toInt32)) ||| (((128 : Int32) ||| (p1 &&& (63 : Int32))) <<< ((8 : Int32) &&& 31))))])) _
        refine XS.istoreN X0.here hx rfl (hb hby d2_39) rfl (l' := #[.val (.int p1), .val (.int (f2_v39 p1))]) rfl ?_
        show Steps p.tables e below (s₁.setTop (mkF m 40 #[.val (.int p1), .val (.int (f2_v39 p1))] [])) _
        refine XS.goto X0.here hx rfl (pc0 := 40) (pc' := 139) rfl (hb hby d2_40) (by decide) (by decide) ?_
        show Steps p.tables e below (s₁.setTop (mkF m 139 #[.val (.int p1), .val (.int (f2_v39 p1))] [])) _
        refine XS.iloadN X0.here hx rfl (hb hby d2_139) rfl ?_
        show Steps p.tables e below (s₁.setTop (mkF m 140 #[.val (.int p1), .val (.int (f2_v39 p1))] [(.int (f2_v39 p1))])) _
        exact retI X0 hx Bd.returns (hb hby d2_140) hr
      · show Q2 Z p1 h0 n0 _ s₁.heap _
        rw [e0]
        exact ⟨by rw [eq4], N0, rfl⟩
    · have pre5 : ∀ t, Steps p.tables e below (s₁.setTop (mkF m 46 #[.val (.int p1), .unset] [(.int (65536 : Int32)), (.int p1)])) t → Steps p.tables e below (s₁.setTop (entryFrame m #[(.int p1)] 2)) t := by
        intro t k
        refine pre3 t ?_
        show Steps p.tables e below (s₁.setTop (mkF m 16 #[.val (.int p1), .unset] [(.int (2048 : Int32)), (.int p1)])) _
        refine XS.icmpYes X0.here hx rfl (pc0 := 16) (pc' := 43) rfl (hb hby d2_16) rfl (flt hc16).2.1 (by decide) (by decide) ?_
        show Steps p.tables e below (s₁.setTop (mkF m 43 #[.val (.int p1), .unset] [])) _
        refine XS.iloadN X0.here hx rfl (hb hby d2_43) rfl ?_
        show Steps p.tables e below (s₁.setTop (mkF m 44 #[.val (.int p1), .unset] [(.int p1)])) _
        refine X0.ldcInt hx hown (mvT hZ (hw _ (List.mem_of_getElem? (i := 9) rfl))) (g := (mkF m 44 #[.val (.int p1), .unset] [(.int p1)])) rfl (hb hby d2_44) _ ?_
        exact k
      by_cases hc46 : p1 < (65536 : Int32)
      · have eq6 : (f2 p1) = (f2_v84 p1) := by unfold f2; simp only [if_neg hc4, if_neg hc16, if_pos hc46]
        obtain ⟨fs, hr, hrun, hended, hW, hsame⟩ := X0.leave (v := some (.int (f2_v84 p1))) (fun h => by rw [Bd.returns] at h; cases h)
        refine ⟨_, _, pre5 _ ?_, hrun, hended, _, _, rfl, ?_, ⟨_, rfl⟩, hW, hsame.mono (by decide) (by decide)⟩
        · show Steps p.tables e below (s₁.setTop (mkF m 46 #[.val (.int p1), .unset] [(.int (65536 : Int32)), (.int p1)])) _
          refine XS.icmpNo X0.here hx rfl (hb hby d2_46) rfl (tlt hc46).2.1 ?_
          show Steps p.tables e below (s₁.setTop (mkF m 49 #[.val (.int p1), .unset] [])) _
          refine XS.sipush X0.here hx rfl (hb hby d2_49) ?_
          show Steps p.tables e below (s₁.setTop (mkF m 52 #[.val (.int p1), .unset] [(.int (224 : Int32))])) _
          refine XS.iloadN X0.here hx rfl (hb hby d2_52) rfl ?_
          show Steps p.tables e below (s₁.setTop (mkF m 53 #[.val (.int p1), .unset] [(.int p1), (.int (224 : Int32))])) _
          refine XS.bipush X0.here hx rfl (hb hby d2_53) ?_
          show Steps p.tables e below (s₁.setTop (mkF m 55 #[.val (.int p1), .unset] [(.int (12 : Int32)), (.int p1), (.int (224 : Int32))])) _
          refine XS.iushr X0.here hx rfl (hb hby d2_55) rfl ?_
          show Steps p.tables e below (s₁.setTop (mkF m 56 #[.val (.int p1), .unset] [(.int ((p1.toUInt32 >>> ((12 : Int32) &&& 31).toUInt32).toInt32)), (.int (224 : Int32))])) _
          refine XS.ior X0.here hx rfl (hb hby d2_56) rfl ?_
          show Steps p.tables e below (s₁.setTop (mkF m 57 #[.val (.int p1), .unset] [(.int ((224 : Int32) ||| ((p1.toUInt32 >>> ((12 : Int32) &&& 31).toUInt32).toInt32)))])) _
          refine XS.sipush X0.here hx rfl (hb hby d2_57) ?_
          show Steps p.tables e below (s₁.setTop (mkF m 60 #[.val (.int p1), .unset] [(.int (128 : Int32)), (.int ((224 : Int32) ||| ((p1.toUInt32 >>> ((12 : Int32) &&& 31).toUInt32).toInt32)))])) _
          refine XS.iloadN X0.here hx rfl (hb hby d2_60) rfl ?_
          show Steps p.tables e below (s₁.setTop (mkF m 61 #[.val (.int p1), .unset] [(.int p1), (.int (128 : Int32)), (.int ((224 : Int32) ||| ((p1.toUInt32 >>> ((12 : Int32) &&& 31).toUInt32).toInt32)))])) _
          refine XS.bipush X0.here hx rfl (hb hby d2_61) ?_
          show Steps p.tables e below (s₁.setTop (mkF m 63 #[.val (.int p1), .unset] [(.int (6 : Int32)), (.int p1), (.int (128 : Int32)), (.int ((224 : Int32) ||| ((p1.toUInt32 >>> ((12 : Int32) &&& 31).toUInt32).toInt32)))])) _
          refine XS.iushr X0.here hx rfl (hb hby d2_63) rfl ?_
          show Steps p.tables e below (s₁.setTop (mkF m 64 #[.val (.int p1), .unset] [(.int ((p1.toUInt32 >>> ((6 : Int32) &&& 31).toUInt32).toInt32)), (.int (128 : Int32)), (.int ((224 : Int32) ||| ((p1.toUInt32 >>> ((12 : Int32) &&& 31).toUInt32).toInt32)))])) _
          refine XS.bipush X0.here hx rfl (hb hby d2_64) ?_
          show Steps p.tables e below (s₁.setTop (mkF m 66 #[.val (.int p1), .unset] [(.int (63 : Int32)), (.int ((p1.toUInt32 >>> ((6 : Int32) &&& 31).toUInt32).toInt32)), (.int (128 : Int32)), (.int ((224 : Int32) ||| ((p1.toUInt32 >>> ((12 : Int32) &&& 31).toUInt32).toInt32)))])) _
          refine XS.iand X0.here hx rfl (hb hby d2_66) rfl ?_
          show Steps p.tables e below (s₁.setTop (mkF m 67 #[.val (.int p1), .unset] [(.int (((p1.toUInt32 >>> ((6 : Int32) &&& 31).toUInt32).toInt32) &&& (63 : Int32))), (.int (128 : Int32)), (.int ((224 : Int32) ||| ((p1.toUInt32 >>> ((12 : Int32) &&& 31).toUInt32).toInt32)))])) _
          refine XS.ior X0.here hx rfl (hb hby d2_67) rfl ?_
          show Steps p.tables e below (s₁.setTop (mkF m 68 #[.val (.int p1), .unset] [(.int ((128 : Int32) ||| (((p1.toUInt32 >>> ((6 : Int32) &&& 31).toUInt32).toInt32) &&& (63 : Int32)))), (.int ((224 : Int32) ||| ((p1.toUInt32 >>> ((12 : Int32) &&& 31).toUInt32).toInt32)))])) _
          refine XS.bipush X0.here hx rfl (hb hby d2_68) ?_
          show Steps p.tables e below (s₁.setTop (mkF m 70 #[.val (.int p1), .unset] [(.int (8 : Int32)), (.int ((128 : Int32) ||| (((p1.toUInt32 >>> ((6 : Int32) &&& 31).toUInt32).toInt32) &&& (63 : Int32)))), (.int ((224 : Int32) ||| ((p1.toUInt32 >>> ((12 : Int32) &&& 31).toUInt32).toInt32)))])) _
          refine XS.ishl X0.here hx rfl (hb hby d2_70) rfl ?_
          show Steps p.tables e below (s₁.setTop (mkF m 71 #[.val (.int p1), .unset] [(.int (((128 : Int32) ||| (((p1.toUInt32 >>> ((6 : Int32) &&& 31).toUInt32).toInt32) &&& (63 : Int32))) <<< ((8 : Int32) &&& 31))), (.int ((224 : Int32) ||| ((p1.toUInt32 >>> ((12 : Int32) &&& 31).toUInt32).toInt32)))])) _
          refine XS.ior X0.here hx rfl (hb hby d2_71) rfl ?_
          show Steps p.tables e below (s₁.setTop (mkF m 72 #[.val (.int p1), .unset] [(.int (((224 : Int32) ||| ((p1.toUInt32 >>> ((12 : Int32) &&& 31).toUInt32).toInt32)) ||| (((128 : Int32) ||| (((p1.toUInt32 >>> ((6 : Int32) &&& 31).toUInt32).toInt32) &&& (63 : Int32))) <<< ((8 : Int32) &&& 31))))])) _
          refine XS.sipush X0.here hx rfl (hb hby d2_72) ?_
          show Steps p.tables e below (s₁.setTop (mkF m 75 #[.val (.int p1), .unset] [(.int (128 : Int32)), (.int (((224 : Int32) ||| ((p1.toUInt32 >>> ((12 : Int32) &&& 31).toUInt32).toInt32)) ||| (((128 : Int32) ||| (((p1.toUInt32 >>> ((6 : Int32) &&& 31).toUInt32).toInt32) &&& (63 : Int32))) <<< ((8 : Int32) &&& 31))))])) _
          refine XS.iloadN X0.here hx rfl (hb hby d2_75) rfl ?_
          show Steps p.tables e below (s₁.setTop (mkF m 76 #[.val (.int p1), .unset] [(.int p1), (.int (128 : Int32)), (.int (((224 : Int32) ||| ((p1.toUInt32 >>> ((12 : Int32) &&& 31).toUInt32).toInt32)) ||| (((128 : Int32) ||| (((p1.toUInt32 >>> ((6 : Int32) &&& 31).toUInt32).toInt32) &&& (63 : Int32))) <<< ((8 : Int32) &&& 31))))])) _
          refine XS.bipush X0.here hx rfl (hb hby d2_76) ?_
          show Steps p.tables e below (s₁.setTop (mkF m 78 #[.val (.int p1), .unset] [(.int (63 : Int32)), (.int p1), (.int (128 : Int32)), (.int (((224 : Int32) ||| ((p1.toUInt32 >>> ((12 : Int32) &&& 31).toUInt32).toInt32)) ||| (((128 : Int32) ||| (((p1.toUInt32 >>> ((6 : Int32) &&& 31).toUInt32).toInt32) &&& (63 : Int32))) <<< ((8 : Int32) &&& 31))))])) _
          refine XS.iand X0.here hx rfl (hb hby d2_78) rfl ?_
          show Steps p.tables e below (s₁.setTop (mkF m 79 #[.val (.int p1), .unset] [(.int (p1 &&& (63 : Int32))), (.int (128 : Int32)), (.int (((224 : Int32) ||| ((p1.toUInt32 >>> ((12 : Int32) &&& 31).toUInt32).toInt32)) ||| (((128 : Int32) ||| (((p1.toUInt32 >>> ((6 : Int32) &&& 31).toUInt32).toInt32) &&& (63 : Int32))) <<< ((8 : Int32) &&& 31))))])) _
          refine XS.ior X0.here hx rfl (hb hby d2_79) rfl ?_
          show Steps p.tables e below (s₁.setTop (mkF m 80 #[.val (.int p1), .unset] [(.int ((128 : Int32) ||| (p1 &&& (63 : Int32)))), (.int (((224 : Int32) ||| ((p1.toUInt32 >>> ((12 : Int32) &&& 31).toUInt32).toInt32)) ||| (((128 : Int32) ||| (((p1.toUInt32 >>> ((6 : Int32) &&& 31).toUInt32).toInt32) &&& (63 : Int32))) <<< ((8 : Int32) &&& 31))))])) _
          refine XS.bipush X0.here hx rfl (hb hby d2_80) ?_
          show Steps p.tables e below (s₁.setTop (mkF m 82 #[.val (.int p1), .unset] [(.int (16 : Int32)), (.int ((128 : Int32) ||| (p1 &&& (63 : Int32)))), (.int (((224 : Int32) ||| ((p1.toUInt32 >>> ((12 : Int32) &&& 31).toUInt32).toInt32)) ||| (((128 : Int32) ||| (((p1.toUInt32 >>> ((6 : Int32) &&& 31).toUInt32).toInt32) &&& (63 : Int32))) <<< ((8 : Int32) &&& 31))))])) _
          refine XS.ishl X0.here hx rfl (hb hby d2_82) rfl ?_
          show Steps p.tables e below (s₁.setTop (mkF m 83 #[.val (.int p1), .unset] [(.int (((128 : Int32) ||| (p1 &&& (63 : Int32))) <<< ((16 : Int32) &&& 31))), (.int (((224 : Int32) ||| ((p1.toUInt32 >>> ((12 : Int32) &&& 31).toUInt32).toInt32)) ||| (((128 : Int32) ||| (((p1.toUInt32 >>> ((6 : Int32) &&& 31).toUInt32).toInt32) &&& (63 : Int32))) <<< ((8 : Int32) &&& 31))))])) _
          refine XS.ior X0.here hx rfl (hb hby d2_83) rfl ?_
          show Steps p.tables e below (s₁.setTop (mkF m 84 #[.val (.int p1), .unset] [(.int ((((224 : Int32) ||| ((p1.toUInt32 >>> ((12 : Int32) &&& 31).toUInt32).toInt32)) ||| (((128 : Int32) ||| (((p1.toUInt32 >>> ((6 : Int32) &&& 31).toUInt32).toInt32) &&& (63 : Int32))) <<< ((8 : Int32) &&& 31))) ||| (((128 : Int32) ||| (p1 &&& (63 : Int32))) <<< ((16 : Int32) &&& 31))))])) _
          refine XS.istoreN X0.here hx rfl (hb hby d2_84) rfl (l' := #[.val (.int p1), .val (.int (f2_v84 p1))]) rfl ?_
          show Steps p.tables e below (s₁.setTop (mkF m 85 #[.val (.int p1), .val (.int (f2_v84 p1))] [])) _
          refine XS.goto X0.here hx rfl (pc0 := 85) (pc' := 139) rfl (hb hby d2_85) (by decide) (by decide) ?_
          show Steps p.tables e below (s₁.setTop (mkF m 139 #[.val (.int p1), .val (.int (f2_v84 p1))] [])) _
          refine XS.iloadN X0.here hx rfl (hb hby d2_139) rfl ?_
          show Steps p.tables e below (s₁.setTop (mkF m 140 #[.val (.int p1), .val (.int (f2_v84 p1))] [(.int (f2_v84 p1))])) _
          exact retI X0 hx Bd.returns (hb hby d2_140) hr
        · show Q2 Z p1 h0 n0 _ s₁.heap _
          rw [e0]
          exact ⟨by rw [eq6], N0, rfl⟩
      · have eq7 : (f2 p1) = (f2_v138 p1) := by unfold f2; simp only [if_neg hc4, if_neg hc16, if_neg hc46]
        obtain ⟨fs, hr, hrun, hended, hW, hsame⟩ := X0.leave (v := some (.int (f2_v138 p1))) (fun h => by rw [Bd.returns] at h; cases h)
        refine ⟨_, _, pre5 _ ?_, hrun, hended, _, _, rfl, ?_, ⟨_, rfl⟩, hW, hsame.mono (by decide) (by decide)⟩
        · show Steps p.tables e below (s₁.setTop (mkF m 46 #[.val (.int p1), .unset] [(.int (65536 : Int32)), (.int p1)])) _
          refine XS.icmpYes X0.here hx rfl (pc0 := 46) (pc' := 88) rfl (hb hby d2_46) rfl (flt hc46).2.1 (by decide) (by decide) ?_
          show Steps p.tables e below (s₁.setTop (mkF m 88 #[.val (.int p1), .unset] [])) _
          refine XS.sipush X0.here hx rfl (hb hby d2_88) ?_
          show Steps p.tables e below (s₁.setTop (mkF m 91 #[.val (.int p1), .unset] [(.int (240 : Int32))])) _
          refine XS.iloadN X0.here hx rfl (hb hby d2_91) rfl ?_
          show Steps p.tables e below (s₁.setTop (mkF m 92 #[.val (.int p1), .unset] [(.int p1), (.int (240 : Int32))])) _
          refine XS.bipush X0.here hx rfl (hb hby d2_92) ?_
          show Steps p.tables e below (s₁.setTop (mkF m 94 #[.val (.int p1), .unset] [(.int (18 : Int32)), (.int p1), (.int (240 : Int32))])) _
          refine XS.iushr X0.here hx rfl (hb hby d2_94) rfl ?_
          show Steps p.tables e below (s₁.setTop (mkF m 95 #[.val (.int p1), .unset] [(.int ((p1.toUInt32 >>> ((18 : Int32) &&& 31).toUInt32).toInt32)), (.int (240 : Int32))])) _
          refine XS.ior X0.here hx rfl (hb hby d2_95) rfl ?_
          show Steps p.tables e below (s₁.setTop (mkF m 96 #[.val (.int p1), .unset] [(.int ((240 : Int32) ||| ((p1.toUInt32 >>> ((18 : Int32) &&& 31).toUInt32).toInt32)))])) _
          refine XS.sipush X0.here hx rfl (hb hby d2_96) ?_
          show Steps p.tables e below (s₁.setTop (mkF m 99 #[.val (.int p1), .unset] [(.int (128 : Int32)), (.int ((240 : Int32) ||| ((p1.toUInt32 >>> ((18 : Int32) &&& 31).toUInt32).toInt32)))])) _
          refine XS.iloadN X0.here hx rfl (hb hby d2_99) rfl ?_
          show Steps p.tables e below (s₁.setTop (mkF m 100 #[.val (.int p1), .unset] [(.int p1), (.int (128 : Int32)), (.int ((240 : Int32) ||| ((p1.toUInt32 >>> ((18 : Int32) &&& 31).toUInt32).toInt32)))])) _
          refine XS.bipush X0.here hx rfl (hb hby d2_100) ?_
          show Steps p.tables e below (s₁.setTop (mkF m 102 #[.val (.int p1), .unset] [(.int (12 : Int32)), (.int p1), (.int (128 : Int32)), (.int ((240 : Int32) ||| ((p1.toUInt32 >>> ((18 : Int32) &&& 31).toUInt32).toInt32)))])) _
          refine XS.iushr X0.here hx rfl (hb hby d2_102) rfl ?_
          show Steps p.tables e below (s₁.setTop (mkF m 103 #[.val (.int p1), .unset] [(.int ((p1.toUInt32 >>> ((12 : Int32) &&& 31).toUInt32).toInt32)), (.int (128 : Int32)), (.int ((240 : Int32) ||| ((p1.toUInt32 >>> ((18 : Int32) &&& 31).toUInt32).toInt32)))])) _
          refine XS.bipush X0.here hx rfl (hb hby d2_103) ?_
          show Steps p.tables e below (s₁.setTop (mkF m 105 #[.val (.int p1), .unset] [(.int (63 : Int32)), (.int ((p1.toUInt32 >>> ((12 : Int32) &&& 31).toUInt32).toInt32)), (.int (128 : Int32)), (.int ((240 : Int32) ||| ((p1.toUInt32 >>> ((18 : Int32) &&& 31).toUInt32).toInt32)))])) _
          refine XS.iand X0.here hx rfl (hb hby d2_105) rfl ?_
          show Steps p.tables e below (s₁.setTop (mkF m 106 #[.val (.int p1), .unset] [(.int (((p1.toUInt32 >>> ((12 : Int32) &&& 31).toUInt32).toInt32) &&& (63 : Int32))), (.int (128 : Int32)), (.int ((240 : Int32) ||| ((p1.toUInt32 >>> ((18 : Int32) &&& 31).toUInt32).toInt32)))])) _
          refine XS.ior X0.here hx rfl (hb hby d2_106) rfl ?_
          show Steps p.tables e below (s₁.setTop (mkF m 107 #[.val (.int p1), .unset] [(.int ((128 : Int32) ||| (((p1.toUInt32 >>> ((12 : Int32) &&& 31).toUInt32).toInt32) &&& (63 : Int32)))), (.int ((240 : Int32) ||| ((p1.toUInt32 >>> ((18 : Int32) &&& 31).toUInt32).toInt32)))])) _
          refine XS.bipush X0.here hx rfl (hb hby d2_107) ?_
          show Steps p.tables e below (s₁.setTop (mkF m 109 #[.val (.int p1), .unset] [(.int (8 : Int32)), (.int ((128 : Int32) ||| (((p1.toUInt32 >>> ((12 : Int32) &&& 31).toUInt32).toInt32) &&& (63 : Int32)))), (.int ((240 : Int32) ||| ((p1.toUInt32 >>> ((18 : Int32) &&& 31).toUInt32).toInt32)))])) _
          refine XS.ishl X0.here hx rfl (hb hby d2_109) rfl ?_
          show Steps p.tables e below (s₁.setTop (mkF m 110 #[.val (.int p1), .unset] [(.int (((128 : Int32) ||| (((p1.toUInt32 >>> ((12 : Int32) &&& 31).toUInt32).toInt32) &&& (63 : Int32))) <<< ((8 : Int32) &&& 31))), (.int ((240 : Int32) ||| ((p1.toUInt32 >>> ((18 : Int32) &&& 31).toUInt32).toInt32)))])) _
          refine XS.ior X0.here hx rfl (hb hby d2_110) rfl ?_
          show Steps p.tables e below (s₁.setTop (mkF m 111 #[.val (.int p1), .unset] [(.int (((240 : Int32) ||| ((p1.toUInt32 >>> ((18 : Int32) &&& 31).toUInt32).toInt32)) ||| (((128 : Int32) ||| (((p1.toUInt32 >>> ((12 : Int32) &&& 31).toUInt32).toInt32) &&& (63 : Int32))) <<< ((8 : Int32) &&& 31))))])) _
          refine XS.sipush X0.here hx rfl (hb hby d2_111) ?_
          show Steps p.tables e below (s₁.setTop (mkF m 114 #[.val (.int p1), .unset] [(.int (128 : Int32)), (.int (((240 : Int32) ||| ((p1.toUInt32 >>> ((18 : Int32) &&& 31).toUInt32).toInt32)) ||| (((128 : Int32) ||| (((p1.toUInt32 >>> ((12 : Int32) &&& 31).toUInt32).toInt32) &&& (63 : Int32))) <<< ((8 : Int32) &&& 31))))])) _
          refine XS.iloadN X0.here hx rfl (hb hby d2_114) rfl ?_
          show Steps p.tables e below (s₁.setTop (mkF m 115 #[.val (.int p1), .unset] [(.int p1), (.int (128 : Int32)), (.int (((240 : Int32) ||| ((p1.toUInt32 >>> ((18 : Int32) &&& 31).toUInt32).toInt32)) ||| (((128 : Int32) ||| (((p1.toUInt32 >>> ((12 : Int32) &&& 31).toUInt32).toInt32) &&& (63 : Int32))) <<< ((8 : Int32) &&& 31))))])) _
          refine XS.bipush X0.here hx rfl (hb hby d2_115) ?_
          show Steps p.tables e below (s₁.setTop (mkF m 117 #[.val (.int p1), .unset] [(.int (6 : Int32)), (.int p1), (.int (128 : Int32)), (.int (((240 : Int32) ||| ((p1.toUInt32 >>> ((18 : Int32) &&& 31).toUInt32).toInt32)) ||| (((128 : Int32) ||| (((p1.toUInt32 >>> ((12 : Int32) &&& 31).toUInt32).toInt32) &&& (63 : Int32))) <<< ((8 : Int32) &&& 31))))])) _
          refine XS.iushr X0.here hx rfl (hb hby d2_117) rfl ?_
          show Steps p.tables e below (s₁.setTop (mkF m 118 #[.val (.int p1), .unset] [(.int ((p1.toUInt32 >>> ((6 : Int32) &&& 31).toUInt32).toInt32)), (.int (128 : Int32)), (.int (((240 : Int32) ||| ((p1.toUInt32 >>> ((18 : Int32) &&& 31).toUInt32).toInt32)) ||| (((128 : Int32) ||| (((p1.toUInt32 >>> ((12 : Int32) &&& 31).toUInt32).toInt32) &&& (63 : Int32))) <<< ((8 : Int32) &&& 31))))])) _
          refine XS.bipush X0.here hx rfl (hb hby d2_118) ?_
          show Steps p.tables e below (s₁.setTop (mkF m 120 #[.val (.int p1), .unset] [(.int (63 : Int32)), (.int ((p1.toUInt32 >>> ((6 : Int32) &&& 31).toUInt32).toInt32)), (.int (128 : Int32)), (.int (((240 : Int32) ||| ((p1.toUInt32 >>> ((18 : Int32) &&& 31).toUInt32).toInt32)) ||| (((128 : Int32) ||| (((p1.toUInt32 >>> ((12 : Int32) &&& 31).toUInt32).toInt32) &&& (63 : Int32))) <<< ((8 : Int32) &&& 31))))])) _
          refine XS.iand X0.here hx rfl (hb hby d2_120) rfl ?_
          show Steps p.tables e below (s₁.setTop (mkF m 121 #[.val (.int p1), .unset] [(.int (((p1.toUInt32 >>> ((6 : Int32) &&& 31).toUInt32).toInt32) &&& (63 : Int32))), (.int (128 : Int32)), (.int (((240 : Int32) ||| ((p1.toUInt32 >>> ((18 : Int32) &&& 31).toUInt32).toInt32)) ||| (((128 : Int32) ||| (((p1.toUInt32 >>> ((12 : Int32) &&& 31).toUInt32).toInt32) &&& (63 : Int32))) <<< ((8 : Int32) &&& 31))))])) _
          refine XS.ior X0.here hx rfl (hb hby d2_121) rfl ?_
          show Steps p.tables e below (s₁.setTop (mkF m 122 #[.val (.int p1), .unset] [(.int ((128 : Int32) ||| (((p1.toUInt32 >>> ((6 : Int32) &&& 31).toUInt32).toInt32) &&& (63 : Int32)))), (.int (((240 : Int32) ||| ((p1.toUInt32 >>> ((18 : Int32) &&& 31).toUInt32).toInt32)) ||| (((128 : Int32) ||| (((p1.toUInt32 >>> ((12 : Int32) &&& 31).toUInt32).toInt32) &&& (63 : Int32))) <<< ((8 : Int32) &&& 31))))])) _
          refine XS.bipush X0.here hx rfl (hb hby d2_122) ?_
          show Steps p.tables e below (s₁.setTop (mkF m 124 #[.val (.int p1), .unset] [(.int (16 : Int32)), (.int ((128 : Int32) ||| (((p1.toUInt32 >>> ((6 : Int32) &&& 31).toUInt32).toInt32) &&& (63 : Int32)))), (.int (((240 : Int32) ||| ((p1.toUInt32 >>> ((18 : Int32) &&& 31).toUInt32).toInt32)) ||| (((128 : Int32) ||| (((p1.toUInt32 >>> ((12 : Int32) &&& 31).toUInt32).toInt32) &&& (63 : Int32))) <<< ((8 : Int32) &&& 31))))])) _
          refine XS.ishl X0.here hx rfl (hb hby d2_124) rfl ?_
          show Steps p.tables e below (s₁.setTop (mkF m 125 #[.val (.int p1), .unset] [(.int (((128 : Int32) ||| (((p1.toUInt32 >>> ((6 : Int32) &&& 31).toUInt32).toInt32) &&& (63 : Int32))) <<< ((16 : Int32) &&& 31))), (.int (((240 : Int32) ||| ((p1.toUInt32 >>> ((18 : Int32) &&& 31).toUInt32).toInt32)) ||| (((128 : Int32) ||| (((p1.toUInt32 >>> ((12 : Int32) &&& 31).toUInt32).toInt32) &&& (63 : Int32))) <<< ((8 : Int32) &&& 31))))])) _
          refine XS.ior X0.here hx rfl (hb hby d2_125) rfl ?_
          show Steps p.tables e below (s₁.setTop (mkF m 126 #[.val (.int p1), .unset] [(.int ((((240 : Int32) ||| ((p1.toUInt32 >>> ((18 : Int32) &&& 31).toUInt32).toInt32)) ||| (((128 : Int32) ||| (((p1.toUInt32 >>> ((12 : Int32) &&& 31).toUInt32).toInt32) &&& (63 : Int32))) <<< ((8 : Int32) &&& 31))) ||| (((128 : Int32) ||| (((p1.toUInt32 >>> ((6 : Int32) &&& 31).toUInt32).toInt32) &&& (63 : Int32))) <<< ((16 : Int32) &&& 31))))])) _
          refine XS.sipush X0.here hx rfl (hb hby d2_126) ?_
          show Steps p.tables e below (s₁.setTop (mkF m 129 #[.val (.int p1), .unset] [(.int (128 : Int32)), (.int ((((240 : Int32) ||| ((p1.toUInt32 >>> ((18 : Int32) &&& 31).toUInt32).toInt32)) ||| (((128 : Int32) ||| (((p1.toUInt32 >>> ((12 : Int32) &&& 31).toUInt32).toInt32) &&& (63 : Int32))) <<< ((8 : Int32) &&& 31))) ||| (((128 : Int32) ||| (((p1.toUInt32 >>> ((6 : Int32) &&& 31).toUInt32).toInt32) &&& (63 : Int32))) <<< ((16 : Int32) &&& 31))))])) _
          refine XS.iloadN X0.here hx rfl (hb hby d2_129) rfl ?_
          show Steps p.tables e below (s₁.setTop (mkF m 130 #[.val (.int p1), .unset] [(.int p1), (.int (128 : Int32)), (.int ((((240 : Int32) ||| ((p1.toUInt32 >>> ((18 : Int32) &&& 31).toUInt32).toInt32)) ||| (((128 : Int32) ||| (((p1.toUInt32 >>> ((12 : Int32) &&& 31).toUInt32).toInt32) &&& (63 : Int32))) <<< ((8 : Int32) &&& 31))) ||| (((128 : Int32) ||| (((p1.toUInt32 >>> ((6 : Int32) &&& 31).toUInt32).toInt32) &&& (63 : Int32))) <<< ((16 : Int32) &&& 31))))])) _
          refine XS.bipush X0.here hx rfl (hb hby d2_130) ?_
          show Steps p.tables e below (s₁.setTop (mkF m 132 #[.val (.int p1), .unset] [(.int (63 : Int32)), (.int p1), (.int (128 : Int32)), (.int ((((240 : Int32) ||| ((p1.toUInt32 >>> ((18 : Int32) &&& 31).toUInt32).toInt32)) ||| (((128 : Int32) ||| (((p1.toUInt32 >>> ((12 : Int32) &&& 31).toUInt32).toInt32) &&& (63 : Int32))) <<< ((8 : Int32) &&& 31))) ||| (((128 : Int32) ||| (((p1.toUInt32 >>> ((6 : Int32) &&& 31).toUInt32).toInt32) &&& (63 : Int32))) <<< ((16 : Int32) &&& 31))))])) _
          refine XS.iand X0.here hx rfl (hb hby d2_132) rfl ?_
          show Steps p.tables e below (s₁.setTop (mkF m 133 #[.val (.int p1), .unset] [(.int (p1 &&& (63 : Int32))), (.int (128 : Int32)), (.int ((((240 : Int32) ||| ((p1.toUInt32 >>> ((18 : Int32) &&& 31).toUInt32).toInt32)) ||| (((128 : Int32) ||| (((p1.toUInt32 >>> ((12 : Int32) &&& 31).toUInt32).toInt32) &&& (63 : Int32))) <<< ((8 : Int32) &&& 31))) ||| (((128 : Int32) ||| (((p1.toUInt32 >>> ((6 : Int32) &&& 31).toUInt32).toInt32) &&& (63 : Int32))) <<< ((16 : Int32) &&& 31))))])) _
          refine XS.ior X0.here hx rfl (hb hby d2_133) rfl ?_
          show Steps p.tables e below (s₁.setTop (mkF m 134 #[.val (.int p1), .unset] [(.int ((128 : Int32) ||| (p1 &&& (63 : Int32)))), (.int ((((240 : Int32) ||| ((p1.toUInt32 >>> ((18 : Int32) &&& 31).toUInt32).toInt32)) ||| (((128 : Int32) ||| (((p1.toUInt32 >>> ((12 : Int32) &&& 31).toUInt32).toInt32) &&& (63 : Int32))) <<< ((8 : Int32) &&& 31))) ||| (((128 : Int32) ||| (((p1.toUInt32 >>> ((6 : Int32) &&& 31).toUInt32).toInt32) &&& (63 : Int32))) <<< ((16 : Int32) &&& 31))))])) _
          refine XS.bipush X0.here hx rfl (hb hby d2_134) ?_
          show Steps p.tables e below (s₁.setTop (mkF m 136 #[.val (.int p1), .unset] [(.int (24 : Int32)), (.int ((128 : Int32) ||| (p1 &&& (63 : Int32)))), (.int ((((240 : Int32) ||| ((p1.toUInt32 >>> ((18 : Int32) &&& 31).toUInt32).toInt32)) ||| (((128 : Int32) ||| (((p1.toUInt32 >>> ((12 : Int32) &&& 31).toUInt32).toInt32) &&& (63 : Int32))) <<< ((8 : Int32) &&& 31))) ||| (((128 : Int32) ||| (((p1.toUInt32 >>> ((6 : Int32) &&& 31).toUInt32).toInt32) &&& (63 : Int32))) <<< ((16 : Int32) &&& 31))))])) _
          refine XS.ishl X0.here hx rfl (hb hby d2_136) rfl ?_
          show Steps p.tables e below (s₁.setTop (mkF m 137 #[.val (.int p1), .unset] [(.int (((128 : Int32) ||| (p1 &&& (63 : Int32))) <<< ((24 : Int32) &&& 31))), (.int ((((240 : Int32) ||| ((p1.toUInt32 >>> ((18 : Int32) &&& 31).toUInt32).toInt32)) ||| (((128 : Int32) ||| (((p1.toUInt32 >>> ((12 : Int32) &&& 31).toUInt32).toInt32) &&& (63 : Int32))) <<< ((8 : Int32) &&& 31))) ||| (((128 : Int32) ||| (((p1.toUInt32 >>> ((6 : Int32) &&& 31).toUInt32).toInt32) &&& (63 : Int32))) <<< ((16 : Int32) &&& 31))))])) _
          refine XS.ior X0.here hx rfl (hb hby d2_137) rfl ?_
          show Steps p.tables e below (s₁.setTop (mkF m 138 #[.val (.int p1), .unset] [(.int (((((240 : Int32) ||| ((p1.toUInt32 >>> ((18 : Int32) &&& 31).toUInt32).toInt32)) ||| (((128 : Int32) ||| (((p1.toUInt32 >>> ((12 : Int32) &&& 31).toUInt32).toInt32) &&& (63 : Int32))) <<< ((8 : Int32) &&& 31))) ||| (((128 : Int32) ||| (((p1.toUInt32 >>> ((6 : Int32) &&& 31).toUInt32).toInt32) &&& (63 : Int32))) <<< ((16 : Int32) &&& 31))) ||| (((128 : Int32) ||| (p1 &&& (63 : Int32))) <<< ((24 : Int32) &&& 31))))])) _
          refine XS.istoreN X0.here hx rfl (hb hby d2_138) rfl (l' := #[.val (.int p1), .val (.int (f2_v138 p1))]) rfl ?_
          show Steps p.tables e below (s₁.setTop (mkF m 139 #[.val (.int p1), .val (.int (f2_v138 p1))] [])) _
          refine XS.iloadN X0.here hx rfl (hb hby d2_139) rfl ?_
          show Steps p.tables e below (s₁.setTop (mkF m 140 #[.val (.int p1), .val (.int (f2_v138 p1))] [(.int (f2_v138 p1))])) _
          exact retI X0 hx Bd.returns (hb hby d2_140) hr
        · show Q2 Z p1 h0 n0 _ s₁.heap _
          rw [e0]
          exact ⟨by rw [eq7], N0, rfl⟩
theorem pd_0 : parseMethodDescriptor "(I)I" = some ⟨[.int], some .int⟩ := by decide +kernel
theorem pn_1 : plainName "com/example/ringward/ringward/Utf8LengthPinLaw" = true := by first | (simp [plainName, overriddenIn]; done) | decide +kernel
theorem ef_0 (m : MethodId) (x0 : Int32) : entryFrame m #[(.int x0)] maxLocals = mkF m 0 #[.val (.int x0), .unset, .unset, .unset, .unset, .unset, .unset, .unset, .unset, .unset, .unset] [] := by first | (simp [entryFrame, mkF, argsToLocals, Value.category, maxLocals]; done) | rfl
def f0_v6 (p1 : Int32) : Int32 := ((p1 &&& (2147483647 : Int32)) - ((p1 &&& (2147483647 : Int32)) / (1114112 : Int32)) * (1114112 : Int32))
def f0_s0_57 (p1 : Int32) : Int32 := (if (f1 (f0_v6 p1)) = (1 : Int32) then (7 : Int32) else (if (f1 (f0_v6 p1)) = (2 : Int32) then (11 : Int32) else (if (f1 (f0_v6 p1)) = (3 : Int32) then (16 : Int32) else (21 : Int32))))
def f0_s0_89 (p1 : Int32) : Int32 := (if (f1 (f0_v6 p1)) = (1 : Int32) then (0 : Int32) else (if (f1 (f0_v6 p1)) = (2 : Int32) then (7 : Int32) else (if (f1 (f0_v6 p1)) = (3 : Int32) then (11 : Int32) else (16 : Int32))))
def f0_s0_103 (p1 : Int32) : Int32 := (if (f0_v6 p1) < ((1 : Int32) <<< ((f0_s0_57 p1) &&& 31)) then (1 : Int32) else (0 : Int32))
def f0_s0_123 (p1 : Int32) : Int32 := (if (f1 (f0_v6 p1)) = (1 : Int32) then (1 : Int32) else (if (f0_v6 p1) < ((1 : Int32) <<< ((f0_s0_89 p1) &&& 31)) then (0 : Int32) else (1 : Int32)))
def f0_l9_210 (p1 : Int32) : Int32 := (if ((f2 (f0_v6 p1)) &&& (255 : Int32)) < (128 : Int32) then (1 : Int32) else (if (((f2 (f0_v6 p1)) &&& (255 : Int32)) &&& (224 : Int32)) = (192 : Int32) then (2 : Int32) else (if (((f2 (f0_v6 p1)) &&& (255 : Int32)) &&& (240 : Int32)) = (224 : Int32) then (3 : Int32) else (if (((f2 (f0_v6 p1)) &&& (255 : Int32)) &&& (248 : Int32)) = (240 : Int32) then (4 : Int32) else (0 : Int32)))))
def f0_s0_230 (p1 : Int32) : Int32 := (if (f1 (f0_v6 p1)) = (4 : Int32) then (1 : Int32) else (if (((f2 (f0_v6 p1)).toUInt32 >>> (((8 : Int32) * (f1 (f0_v6 p1))) &&& 31).toUInt32).toInt32) = (0 : Int32) then (1 : Int32) else (0 : Int32)))
def f0 (p1 : Int32) : Int32 := (if (f1 (f0_v6 p1)) < (1 : Int32) then (0 : Int32) else (if (4 : Int32) < (f1 (f0_v6 p1)) then (0 : Int32) else (if (f0_s0_103 p1) = (0 : Int32) then (0 : Int32) else (if (f0_s0_123 p1) = (0 : Int32) then (0 : Int32) else (if (f0_l9_210 p1) = (f1 (f0_v6 p1)) then (if (f0_s0_230 p1) = (0 : Int32) then (0 : Int32) else (1 : Int32)) else (0 : Int32))))))
def Q0 (Z : State) (p1 : Int32) (h0 : Heap) (n0 : Nat) (v : Option Value) (h : Heap) (L : List Loc) : Prop := v = some (.int (f0 p1)) ∧ Fr n0 L ∧ True
set_option maxRecDepth 65536 in
set_option maxHeartbeats 40000000 in
theorem rm0 (l : Launch) (Z : State) (a0 : Array Value) (hw : ∀ d ∈ tables_1, d.before a0 Z = true) (ws : List Jvm.Cond) (p1 : Int32) (h0 : Heap) (n0 : Nat) (Z0 : n0 ≤ h0.size) :
    MetFree l x (head1 (Jvm.Cond.code x code maxLocals ret :: ws) room_1) (fun a U => a = #[(.int p1)] ∧ Z.Warmed39 U.vm ∧ U.heap = h0) (fun _ _ _ _ _ => True) (fun _ U o U' => ∃ v L, o = .returned v ∧ Q0 Z p1 h0 n0 v U'.heap L ∧ FrameEnd U o U' L room_1.cells room_1.slots) := by
  refine MetFree.of_bodySF (plainFor_of_name pn_1) hisR ?_
  intro p e s m args below meth c s₁ Bd hml0 hP hK
  obtain ⟨rfl, hZ, hh⟩ := hP
  have hx := Bd.exec
  have hby := Bd.bytes
  have hml : c.maxLocals = 11 := hml0
  have hown : s.vm.findClass "com/example/ringward/ringward/Utf8LengthPinLaw" = some m.cls := findClass_of_methodNamed Bd.named
  have hnm := (name_of_methodNamed Bd.named Bd.method).1
  have X0 : Stand p l e room_1 s m #[(.int p1)] below meth c s₁ [] 0 0 := Stand.of_body Bd
  have e0 : s₁.heap = h0 := by rw [← hh, Bd.state]; rfl
  have N0 := Fr.nil n0
  have pre0 : ∀ t, Steps p.tables e below (s₁.setTop (mkF m 0 #[.val (.int p1), .unset, .unset, .unset, .unset, .unset, .unset, .unset, .unset, .unset, .unset] [])) t → Steps p.tables e below (s₁.setTop (entryFrame m #[(.int p1)] maxLocals)) t := fun t k => castTop (ef_0 m p1) k
  obtain ⟨_, _, ⟨T2, L2, k2, n2⟩, -, X2, ⟨Lc2, hQ2, l2, y2, z2⟩, st2⟩ := Jvm.LawKit.callS X0 hx (y := (⟨"com/example/ringward/ringward/Utf8", "length", "(I)I"⟩ : MethodName)) hown (mvT hZ (hw _ (List.mem_of_getElem? (i := 2) rfl))) (mvT hZ (hw _ (List.mem_of_getElem? (i := 3) rfl))) (mvT hZ (hw _ (List.mem_of_getElem? (i := 4) rfl))) (mvT hZ (hw _ (List.mem_of_getElem? (i := 5) rfl))) (by decide) (backOf (W := 0) (rm1 l Z a0 hw [] (f0_v6 p1) h0 n0 Z0 ) hZ (hw _ (List.mem_of_getElem? (i := 5) rfl)) (hw _ (List.mem_of_getElem? (i := 4) rfl)) (by decide) (by decide)) (g := (mkF m 9 #[.val (.int p1), .val (.int (f0_v6 p1)), .unset, .unset, .unset, .unset, .unset, .unset, .unset, .unset, .unset] [(.int (f0_v6 p1))])) rfl (by rw [hml]; rfl) (argsL := [(.int (f0_v6 p1))]) (rest := []) (lenOf pd_0 rfl) rfl (by show 2 * 0 + _ ≤ _; exact Nat.le_of_eq rfl) (hb hby at_9) (fun _ _ => ⟨rfl, e0, (by decide : 0 + 0 ≤ _), (by decide : 0 + 0 ≤ _)⟩)
  dsimp only [Pt.U, Pt.locs, Pt.cells, Pt.slots] at X2 l2 y2 z2 st2 hQ2
  subst l2 y2 z2
  obtain ⟨rfl, N2q, e2⟩ := hQ2
  have N2 := Fr.app N0 N2q
  have pre1 : ∀ t, Steps p.tables e below (T2.setTop (mkF m 15 #[.val (.int p1), .val (.int (f0_v6 p1)), .val (.int (f1 (f0_v6 p1))), .unset, .unset, .unset, .unset, .unset, .unset, .unset, .unset] [(.int (1 : Int32)), (.int (f1 (f0_v6 p1)))])) t → Steps p.tables e below (s₁.setTop (entryFrame m #[(.int p1)] maxLocals)) t := by
    intro t k
    refine pre0 t ?_
    show Steps p.tables e below (s₁.setTop (mkF m 0 #[.val (.int p1), .unset, .unset, .unset, .unset, .unset, .unset, .unset, .unset, .unset, .unset] [])) _
    refine XS.iloadN X0.here hx rfl (hb hby at_0) rfl ?_
    show Steps p.tables e below (s₁.setTop (mkF m 1 #[.val (.int p1), .unset, .unset, .unset, .unset, .unset, .unset, .unset, .unset, .unset, .unset] [(.int p1)])) _
    refine X0.ldcInt hx hown (mvT hZ (hw _ (List.mem_of_getElem? (i := 0) rfl))) (g := (mkF m 1 #[.val (.int p1), .unset, .unset, .unset, .unset, .unset, .unset, .unset, .unset, .unset, .unset] [(.int p1)])) rfl (hb hby at_1) _ ?_
    show Steps p.tables e below (s₁.setTop (mkF m 3 #[.val (.int p1), .unset, .unset, .unset, .unset, .unset, .unset, .unset, .unset, .unset, .unset] [(.int (2147483647 : Int32)), (.int p1)])) _
    refine XS.iand X0.here hx rfl (hb hby at_3) rfl ?_
    show Steps p.tables e below (s₁.setTop (mkF m 4 #[.val (.int p1), .unset, .unset, .unset, .unset, .unset, .unset, .unset, .unset, .unset, .unset] [(.int (p1 &&& (2147483647 : Int32)))])) _
    refine X0.ldcInt hx hown (mvT hZ (hw _ (List.mem_of_getElem? (i := 1) rfl))) (g := (mkF m 4 #[.val (.int p1), .unset, .unset, .unset, .unset, .unset, .unset, .unset, .unset, .unset, .unset] [(.int (p1 &&& (2147483647 : Int32)))])) rfl (hb hby at_4) _ ?_
    show Steps p.tables e below (s₁.setTop (mkF m 6 #[.val (.int p1), .unset, .unset, .unset, .unset, .unset, .unset, .unset, .unset, .unset, .unset] [(.int (1114112 : Int32)), (.int (p1 &&& (2147483647 : Int32)))])) _
    refine XS.irem X0.here hx rfl (hb hby at_6) rfl (by decide) ?_
    show Steps p.tables e below (s₁.setTop (mkF m 7 #[.val (.int p1), .unset, .unset, .unset, .unset, .unset, .unset, .unset, .unset, .unset, .unset] [(.int (f0_v6 p1))])) _
    refine XS.istoreN X0.here hx rfl (hb hby at_7) rfl (l' := #[.val (.int p1), .val (.int (f0_v6 p1)), .unset, .unset, .unset, .unset, .unset, .unset, .unset, .unset, .unset]) rfl ?_
    show Steps p.tables e below (s₁.setTop (mkF m 8 #[.val (.int p1), .val (.int (f0_v6 p1)), .unset, .unset, .unset, .unset, .unset, .unset, .unset, .unset, .unset] [])) _
    refine XS.iloadN X0.here hx rfl (hb hby at_8) rfl ?_
    show Steps p.tables e below (s₁.setTop (mkF m 9 #[.val (.int p1), .val (.int (f0_v6 p1)), .unset, .unset, .unset, .unset, .unset, .unset, .unset, .unset, .unset] [(.int (f0_v6 p1))])) _
    refine st2 _ ?_
    show Steps p.tables e below (T2.setTop (mkF m 12 #[.val (.int p1), .val (.int (f0_v6 p1)), .unset, .unset, .unset, .unset, .unset, .unset, .unset, .unset, .unset] [(.int (f1 (f0_v6 p1)))])) _
    refine XS.istoreN X2.here hx rfl (hb hby at_12) rfl (l' := #[.val (.int p1), .val (.int (f0_v6 p1)), .val (.int (f1 (f0_v6 p1))), .unset, .unset, .unset, .unset, .unset, .unset, .unset, .unset]) rfl ?_
    show Steps p.tables e below (T2.setTop (mkF m 13 #[.val (.int p1), .val (.int (f0_v6 p1)), .val (.int (f1 (f0_v6 p1))), .unset, .unset, .unset, .unset, .unset, .unset, .unset, .unset] [])) _
    refine XS.iloadN X2.here hx rfl (hb hby at_13) rfl ?_
    show Steps p.tables e below (T2.setTop (mkF m 14 #[.val (.int p1), .val (.int (f0_v6 p1)), .val (.int (f1 (f0_v6 p1))), .unset, .unset, .unset, .unset, .unset, .unset, .unset, .unset] [(.int (f1 (f0_v6 p1)))])) _
    refine XS.iconst X2.here hx rfl (hb hby at_14) ?_
    exact k
  by_cases hc15 : (f1 (f0_v6 p1)) < (1 : Int32)
  · have eq2 : (f0 p1) = (0 : Int32) := by unfold f0; simp only [if_pos hc15]
    obtain ⟨fs, hr, hrun, hended, hW, hsame⟩ := X2.leave (v := some (.int (0 : Int32))) (fun h => by rw [Bd.returns] at h; cases h)
    refine ⟨_, _, pre1 _ ?_, hrun, hended, _, _, rfl, ?_, ⟨_, rfl⟩, hW, hsame.mono (by decide) (by decide)⟩
    · show Steps p.tables e below (T2.setTop (mkF m 15 #[.val (.int p1), .val (.int (f0_v6 p1)), .val (.int (f1 (f0_v6 p1))), .unset, .unset, .unset, .unset, .unset, .unset, .unset, .unset] [(.int (1 : Int32)), (.int (f1 (f0_v6 p1)))])) _
      refine XS.icmpYes X2.here hx rfl (pc0 := 15) (pc' := 23) rfl (hb hby at_15) rfl (tlt hc15).1 (by decide) (by decide) ?_
      show Steps p.tables e below (T2.setTop (mkF m 23 #[.val (.int p1), .val (.int (f0_v6 p1)), .val (.int (f1 (f0_v6 p1))), .unset, .unset, .unset, .unset, .unset, .unset, .unset, .unset] [])) _
      refine XS.iconst X2.here hx rfl (hb hby at_23) ?_
      show Steps p.tables e below (T2.setTop (mkF m 24 #[.val (.int p1), .val (.int (f0_v6 p1)), .val (.int (f1 (f0_v6 p1))), .unset, .unset, .unset, .unset, .unset, .unset, .unset, .unset] [(.int (0 : Int32))])) _
      exact retN X2 hx (t := .boolean) Bd.returns (by simp) (hb hby at_24) hr
    · show Q0 Z p1 h0 n0 _ T2.heap _
      rw [e2]
      exact ⟨by rw [eq2], N2, trivial⟩
  · have pre3 : ∀ t, Steps p.tables e below (T2.setTop (mkF m 20 #[.val (.int p1), .val (.int (f0_v6 p1)), .val (.int (f1 (f0_v6 p1))), .unset, .unset, .unset, .unset, .unset, .unset, .unset, .unset] [(.int (4 : Int32)), (.int (f1 (f0_v6 p1)))])) t → Steps p.tables e below (s₁.setTop (entryFrame m #[(.int p1)] maxLocals)) t := by
      intro t k
      refine pre1 t ?_
      show Steps p.tables e below (T2.setTop (mkF m 15 #[.val (.int p1), .val (.int (f0_v6 p1)), .val (.int (f1 (f0_v6 p1))), .unset, .unset, .unset, .unset, .unset, .unset, .unset, .unset] [(.int (1 : Int32)), (.int (f1 (f0_v6 p1)))])) _
      refine XS.icmpNo X2.here hx rfl (hb hby at_15) rfl (flt hc15).1 ?_
      show Steps p.tables e below (T2.setTop (mkF m 18 #[.val (.int p1), .val (.int (f0_v6 p1)), .val (.int (f1 (f0_v6 p1))), .unset, .unset, .unset, .unset, .unset, .unset, .unset, .unset] [])) _
      refine XS.iloadN X2.here hx rfl (hb hby at_18) rfl ?_
      show Steps p.tables e below (T2.setTop (mkF m 19 #[.val (.int p1), .val (.int (f0_v6 p1)), .val (.int (f1 (f0_v6 p1))), .unset, .unset, .unset, .unset, .unset, .unset, .unset, .unset] [(.int (f1 (f0_v6 p1)))])) _
      refine XS.iconst X2.here hx rfl (hb hby at_19) ?_
      exact k
    by_cases hc20 : (4 : Int32) < (f1 (f0_v6 p1))
    · have eq4 : (f0 p1) = (0 : Int32) := by unfold f0; simp only [if_neg hc15, if_pos hc20]
      obtain ⟨fs, hr, hrun, hended, hW, hsame⟩ := X2.leave (v := some (.int (0 : Int32))) (fun h => by rw [Bd.returns] at h; cases h)
      refine ⟨_, _, pre3 _ ?_, hrun, hended, _, _, rfl, ?_, ⟨_, rfl⟩, hW, hsame.mono (by decide) (by decide)⟩
      · show Steps p.tables e below (T2.setTop (mkF m 20 #[.val (.int p1), .val (.int (f0_v6 p1)), .val (.int (f1 (f0_v6 p1))), .unset, .unset, .unset, .unset, .unset, .unset, .unset, .unset] [(.int (4 : Int32)), (.int (f1 (f0_v6 p1)))])) _
        refine XS.icmpNo X2.here hx rfl (hb hby at_20) rfl (tlt hc20).2.2.2 ?_
        show Steps p.tables e below (T2.setTop (mkF m 23 #[.val (.int p1), .val (.int (f0_v6 p1)), .val (.int (f1 (f0_v6 p1))), .unset, .unset, .unset, .unset, .unset, .unset, .unset, .unset] [])) _
        refine XS.iconst X2.here hx rfl (hb hby at_23) ?_
        show Steps p.tables e below (T2.setTop (mkF m 24 #[.val (.int p1), .val (.int (f0_v6 p1)), .val (.int (f1 (f0_v6 p1))), .unset, .unset, .unset, .unset, .unset, .unset, .unset, .unset] [(.int (0 : Int32))])) _
        exact retN X2 hx (t := .boolean) Bd.returns (by simp) (hb hby at_24) hr
      · show Q0 Z p1 h0 n0 _ T2.heap _
        rw [e2]
        exact ⟨by rw [eq4], N2, trivial⟩
    · have pre5 : ∀ t, Steps p.tables e below (T2.setTop (mkF m 27 #[.val (.int p1), .val (.int (f0_v6 p1)), .val (.int (f1 (f0_v6 p1))), .unset, .unset, .unset, .unset, .unset, .unset, .unset, .unset] [(.int (1 : Int32)), (.int (f1 (f0_v6 p1)))])) t → Steps p.tables e below (s₁.setTop (entryFrame m #[(.int p1)] maxLocals)) t := by
        intro t k
        refine pre3 t ?_
        show Steps p.tables e below (T2.setTop (mkF m 20 #[.val (.int p1), .val (.int (f0_v6 p1)), .val (.int (f1 (f0_v6 p1))), .unset, .unset, .unset, .unset, .unset, .unset, .unset, .unset] [(.int (4 : Int32)), (.int (f1 (f0_v6 p1)))])) _
        refine XS.icmpYes X2.here hx rfl (pc0 := 20) (pc' := 25) rfl (hb hby at_20) rfl (flt hc20).2.2.2 (by decide) (by decide) ?_
        show Steps p.tables e below (T2.setTop (mkF m 25 #[.val (.int p1), .val (.int (f0_v6 p1)), .val (.int (f1 (f0_v6 p1))), .unset, .unset, .unset, .unset, .unset, .unset, .unset, .unset] [])) _
        refine XS.iloadN X2.here hx rfl (hb hby at_25) rfl ?_
        show Steps p.tables e below (T2.setTop (mkF m 26 #[.val (.int p1), .val (.int (f0_v6 p1)), .val (.int (f1 (f0_v6 p1))), .unset, .unset, .unset, .unset, .unset, .unset, .unset, .unset] [(.int (f1 (f0_v6 p1)))])) _
        refine XS.iconst X2.here hx rfl (hb hby at_26) ?_
        exact k
      have pre6 : ∀ t, Steps p.tables e below (T2.setTop (mkF m 57 #[.val (.int p1), .val (.int (f0_v6 p1)), .val (.int (f1 (f0_v6 p1))), .unset, .unset, .unset, .unset, .unset, .unset, .unset, .unset] [(.int (f0_s0_57 p1))])) t → Steps p.tables e below (s₁.setTop (entryFrame m #[(.int p1)] maxLocals)) t := by
        intro t k
        by_cases hc27 : (f1 (f0_v6 p1)) = (1 : Int32)
        · have eq7 := (show (f0_s0_57 p1) = (7 : Int32) from by unfold f0_s0_57; simp only [if_pos hc27])
          try rw [eq7] at k
          refine pre5 t ?_
          show Steps p.tables e below (T2.setTop (mkF m 27 #[.val (.int p1), .val (.int (f0_v6 p1)), .val (.int (f1 (f0_v6 p1))), .unset, .unset, .unset, .unset, .unset, .unset, .unset, .unset] [(.int (1 : Int32)), (.int (f1 (f0_v6 p1)))])) _
          refine XS.icmpNo X2.here hx rfl (hb hby at_27) rfl (teq hc27).2 ?_
          show Steps p.tables e below (T2.setTop (mkF m 30 #[.val (.int p1), .val (.int (f0_v6 p1)), .val (.int (f1 (f0_v6 p1))), .unset, .unset, .unset, .unset, .unset, .unset, .unset, .unset] [])) _
          refine XS.bipush X2.here hx rfl (hb hby at_30) ?_
          show Steps p.tables e below (T2.setTop (mkF m 32 #[.val (.int p1), .val (.int (f0_v6 p1)), .val (.int (f1 (f0_v6 p1))), .unset, .unset, .unset, .unset, .unset, .unset, .unset, .unset] [(.int (7 : Int32))])) _
          refine XS.goto X2.here hx rfl (pc0 := 32) (pc' := 57) rfl (hb hby at_32) (by decide) (by decide) ?_
          exact k
        · have pre8 : ∀ t, Steps p.tables e below (T2.setTop (mkF m 37 #[.val (.int p1), .val (.int (f0_v6 p1)), .val (.int (f1 (f0_v6 p1))), .unset, .unset, .unset, .unset, .unset, .unset, .unset, .unset] [(.int (2 : Int32)), (.int (f1 (f0_v6 p1)))])) t → Steps p.tables e below (s₁.setTop (entryFrame m #[(.int p1)] maxLocals)) t := by
            intro t k
            refine pre5 t ?_
            show Steps p.tables e below (T2.setTop (mkF m 27 #[.val (.int p1), .val (.int (f0_v6 p1)), .val (.int (f1 (f0_v6 p1))), .unset, .unset, .unset, .unset, .unset, .unset, .unset, .unset] [(.int (1 : Int32)), (.int (f1 (f0_v6 p1)))])) _
            refine XS.icmpYes X2.here hx rfl (pc0 := 27) (pc' := 35) rfl (hb hby at_27) rfl (feq hc27).2 (by decide) (by decide) ?_
            show Steps p.tables e below (T2.setTop (mkF m 35 #[.val (.int p1), .val (.int (f0_v6 p1)), .val (.int (f1 (f0_v6 p1))), .unset, .unset, .unset, .unset, .unset, .unset, .unset, .unset] [])) _
            refine XS.iloadN X2.here hx rfl (hb hby at_35) rfl ?_
            show Steps p.tables e below (T2.setTop (mkF m 36 #[.val (.int p1), .val (.int (f0_v6 p1)), .val (.int (f1 (f0_v6 p1))), .unset, .unset, .unset, .unset, .unset, .unset, .unset, .unset] [(.int (f1 (f0_v6 p1)))])) _
            refine XS.iconst X2.here hx rfl (hb hby at_36) ?_
            exact k
          by_cases hc37 : (f1 (f0_v6 p1)) = (2 : Int32)
          · have eq9 := (show (f0_s0_57 p1) = (11 : Int32) from by unfold f0_s0_57; simp only [if_neg hc27, if_pos hc37])
            try rw [eq9] at k
            refine pre8 t ?_
            show Steps p.tables e below (T2.setTop (mkF m 37 #[.val (.int p1), .val (.int (f0_v6 p1)), .val (.int (f1 (f0_v6 p1))), .unset, .unset, .unset, .unset, .unset, .unset, .unset, .unset] [(.int (2 : Int32)), (.int (f1 (f0_v6 p1)))])) _
            refine XS.icmpNo X2.here hx rfl (hb hby at_37) rfl (teq hc37).2 ?_
            show Steps p.tables e below (T2.setTop (mkF m 40 #[.val (.int p1), .val (.int (f0_v6 p1)), .val (.int (f1 (f0_v6 p1))), .unset, .unset, .unset, .unset, .unset, .unset, .unset, .unset] [])) _
            refine XS.bipush X2.here hx rfl (hb hby at_40) ?_
            show Steps p.tables e below (T2.setTop (mkF m 42 #[.val (.int p1), .val (.int (f0_v6 p1)), .val (.int (f1 (f0_v6 p1))), .unset, .unset, .unset, .unset, .unset, .unset, .unset, .unset] [(.int (11 : Int32))])) _
            refine XS.goto X2.here hx rfl (pc0 := 42) (pc' := 57) rfl (hb hby at_42) (by decide) (by decide) ?_
            exact k
          · have pre10 : ∀ t, Steps p.tables e below (T2.setTop (mkF m 47 #[.val (.int p1), .val (.int (f0_v6 p1)), .val (.int (f1 (f0_v6 p1))), .unset, .unset, .unset, .unset, .unset, .unset, .unset, .unset] [(.int (3 : Int32)), (.int (f1 (f0_v6 p1)))])) t → Steps p.tables e below (s₁.setTop (entryFrame m #[(.int p1)] maxLocals)) t := by
              intro t k
              refine pre8 t ?_
              show Steps p.tables e below (T2.setTop (mkF m 37 #[.val (.int p1), .val (.int (f0_v6 p1)), .val (.int (f1 (f0_v6 p1))), .unset, .unset, .unset, .unset, .unset, .unset, .unset, .unset] [(.int (2 : Int32)), (.int (f1 (f0_v6 p1)))])) _
              refine XS.icmpYes X2.here hx rfl (pc0 := 37) (pc' := 45) rfl (hb hby at_37) rfl (feq hc37).2 (by decide) (by decide) ?_
              show Steps p.tables e below (T2.setTop (mkF m 45 #[.val (.int p1), .val (.int (f0_v6 p1)), .val (.int (f1 (f0_v6 p1))), .unset, .unset, .unset, .unset, .unset, .unset, .unset, .unset] [])) _
              refine XS.iloadN X2.here hx rfl (hb hby at_45) rfl ?_
              show Steps p.tables e below (T2.setTop (mkF m 46 #[.val (.int p1), .val (.int (f0_v6 p1)), .val (.int (f1 (f0_v6 p1))), .unset, .unset, .unset, .unset, .unset, .unset, .unset, .unset] [(.int (f1 (f0_v6 p1)))])) _
              refine XS.iconst X2.here hx rfl (hb hby at_46) ?_
              exact k
            by_cases hc47 : (f1 (f0_v6 p1)) = (3 : Int32)
            · have eq11 := (show (f0_s0_57 p1) = (16 : Int32) from by unfold f0_s0_57; simp only [if_neg hc27, if_neg hc37, if_pos hc47])
              try rw [eq11] at k
              refine pre10 t ?_
              show Steps p.tables e below (T2.setTop (mkF m 47 #[.val (.int p1), .val (.int (f0_v6 p1)), .val (.int (f1 (f0_v6 p1))), .unset, .unset, .unset, .unset, .unset, .unset, .unset, .unset] [(.int (3 : Int32)), (.int (f1 (f0_v6 p1)))])) _
              refine XS.icmpNo X2.here hx rfl (hb hby at_47) rfl (teq hc47).2 ?_
              show Steps p.tables e below (T2.setTop (mkF m 50 #[.val (.int p1), .val (.int (f0_v6 p1)), .val (.int (f1 (f0_v6 p1))), .unset, .unset, .unset, .unset, .unset, .unset, .unset, .unset] [])) _
              refine XS.bipush X2.here hx rfl (hb hby at_50) ?_
              show Steps p.tables e below (T2.setTop (mkF m 52 #[.val (.int p1), .val (.int (f0_v6 p1)), .val (.int (f1 (f0_v6 p1))), .unset, .unset, .unset, .unset, .unset, .unset, .unset, .unset] [(.int (16 : Int32))])) _
              refine XS.goto X2.here hx rfl (pc0 := 52) (pc' := 57) rfl (hb hby at_52) (by decide) (by decide) ?_
              exact k
            · have eq12 := (show (f0_s0_57 p1) = (21 : Int32) from by unfold f0_s0_57; simp only [if_neg hc27, if_neg hc37, if_neg hc47])
              try rw [eq12] at k
              refine pre10 t ?_
              show Steps p.tables e below (T2.setTop (mkF m 47 #[.val (.int p1), .val (.int (f0_v6 p1)), .val (.int (f1 (f0_v6 p1))), .unset, .unset, .unset, .unset, .unset, .unset, .unset, .unset] [(.int (3 : Int32)), (.int (f1 (f0_v6 p1)))])) _
              refine XS.icmpYes X2.here hx rfl (pc0 := 47) (pc' := 55) rfl (hb hby at_47) rfl (feq hc47).2 (by decide) (by decide) ?_
              show Steps p.tables e below (T2.setTop (mkF m 55 #[.val (.int p1), .val (.int (f0_v6 p1)), .val (.int (f1 (f0_v6 p1))), .unset, .unset, .unset, .unset, .unset, .unset, .unset, .unset] [])) _
              refine XS.bipush X2.here hx rfl (hb hby at_55) ?_
              exact k
      have pre13 : ∀ t, Steps p.tables e below (T2.setTop (mkF m 60 #[.val (.int p1), .val (.int (f0_v6 p1)), .val (.int (f1 (f0_v6 p1))), .val (.int (f0_s0_57 p1)), .unset, .unset, .unset, .unset, .unset, .unset, .unset] [(.int (1 : Int32)), (.int (f1 (f0_v6 p1)))])) t → Steps p.tables e below (s₁.setTop (entryFrame m #[(.int p1)] maxLocals)) t := by
        intro t k
        refine pre6 t ?_
        show Steps p.tables e below (T2.setTop (mkF m 57 #[.val (.int p1), .val (.int (f0_v6 p1)), .val (.int (f1 (f0_v6 p1))), .unset, .unset, .unset, .unset, .unset, .unset, .unset, .unset] [(.int (f0_s0_57 p1))])) _
        refine XS.istoreN X2.here hx rfl (hb hby at_57) rfl (l' := #[.val (.int p1), .val (.int (f0_v6 p1)), .val (.int (f1 (f0_v6 p1))), .val (.int (f0_s0_57 p1)), .unset, .unset, .unset, .unset, .unset, .unset, .unset]) rfl ?_
        show Steps p.tables e below (T2.setTop (mkF m 58 #[.val (.int p1), .val (.int (f0_v6 p1)), .val (.int (f1 (f0_v6 p1))), .val (.int (f0_s0_57 p1)), .unset, .unset, .unset, .unset, .unset, .unset, .unset] [])) _
        refine XS.iloadN X2.here hx rfl (hb hby at_58) rfl ?_
        show Steps p.tables e below (T2.setTop (mkF m 59 #[.val (.int p1), .val (.int (f0_v6 p1)), .val (.int (f1 (f0_v6 p1))), .val (.int (f0_s0_57 p1)), .unset, .unset, .unset, .unset, .unset, .unset, .unset] [(.int (f1 (f0_v6 p1)))])) _
        refine XS.iconst X2.here hx rfl (hb hby at_59) ?_
        exact k
      have pre14 : ∀ t, Steps p.tables e below (T2.setTop (mkF m 89 #[.val (.int p1), .val (.int (f0_v6 p1)), .val (.int (f1 (f0_v6 p1))), .val (.int (f0_s0_57 p1)), .unset, .unset, .unset, .unset, .unset, .unset, .unset] [(.int (f0_s0_89 p1))])) t → Steps p.tables e below (s₁.setTop (entryFrame m #[(.int p1)] maxLocals)) t := by
        intro t k
        by_cases hc60 : (f1 (f0_v6 p1)) = (1 : Int32)
        · have eq15 := (show (f0_s0_89 p1) = (0 : Int32) from by unfold f0_s0_89; simp only [if_pos hc60])
          try rw [eq15] at k
          refine pre13 t ?_
          show Steps p.tables e below (T2.setTop (mkF m 60 #[.val (.int p1), .val (.int (f0_v6 p1)), .val (.int (f1 (f0_v6 p1))), .val (.int (f0_s0_57 p1)), .unset, .unset, .unset, .unset, .unset, .unset, .unset] [(.int (1 : Int32)), (.int (f1 (f0_v6 p1)))])) _
          refine XS.icmpNo X2.here hx rfl (hb hby at_60) rfl (teq hc60).2 ?_
          show Steps p.tables e below (T2.setTop (mkF m 63 #[.val (.int p1), .val (.int (f0_v6 p1)), .val (.int (f1 (f0_v6 p1))), .val (.int (f0_s0_57 p1)), .unset, .unset, .unset, .unset, .unset, .unset, .unset] [])) _
          refine XS.iconst X2.here hx rfl (hb hby at_63) ?_
          show Steps p.tables e below (T2.setTop (mkF m 64 #[.val (.int p1), .val (.int (f0_v6 p1)), .val (.int (f1 (f0_v6 p1))), .val (.int (f0_s0_57 p1)), .unset, .unset, .unset, .unset, .unset, .unset, .unset] [(.int (0 : Int32))])) _
          refine XS.goto X2.here hx rfl (pc0 := 64) (pc' := 89) rfl (hb hby at_64) (by decide) (by decide) ?_
          exact k
        · have pre16 : ∀ t, Steps p.tables e below (T2.setTop (mkF m 69 #[.val (.int p1), .val (.int (f0_v6 p1)), .val (.int (f1 (f0_v6 p1))), .val (.int (f0_s0_57 p1)), .unset, .unset, .unset, .unset, .unset, .unset, .unset] [(.int (2 : Int32)), (.int (f1 (f0_v6 p1)))])) t → Steps p.tables e below (s₁.setTop (entryFrame m #[(.int p1)] maxLocals)) t := by
            intro t k
            refine pre13 t ?_
            show Steps p.tables e below (T2.setTop (mkF m 60 #[.val (.int p1), .val (.int (f0_v6 p1)), .val (.int (f1 (f0_v6 p1))), .val (.int (f0_s0_57 p1)), .unset, .unset, .unset, .unset, .unset, .unset, .unset] [(.int (1 : Int32)), (.int (f1 (f0_v6 p1)))])) _
            refine XS.icmpYes X2.here hx rfl (pc0 := 60) (pc' := 67) rfl (hb hby at_60) rfl (feq hc60).2 (by decide) (by decide) ?_
            show Steps p.tables e below (T2.setTop (mkF m 67 #[.val (.int p1), .val (.int (f0_v6 p1)), .val (.int (f1 (f0_v6 p1))), .val (.int (f0_s0_57 p1)), .unset, .unset, .unset, .unset, .unset, .unset, .unset] [])) _
            refine XS.iloadN X2.here hx rfl (hb hby at_67) rfl ?_
            show Steps p.tables e below (T2.setTop (mkF m 68 #[.val (.int p1), .val (.int (f0_v6 p1)), .val (.int (f1 (f0_v6 p1))), .val (.int (f0_s0_57 p1)), .unset, .unset, .unset, .unset, .unset, .unset, .unset] [(.int (f1 (f0_v6 p1)))])) _
            refine XS.iconst X2.here hx rfl (hb hby at_68) ?_
            exact k
          by_cases hc69 : (f1 (f0_v6 p1)) = (2 : Int32)
          · have eq17 := (show (f0_s0_89 p1) = (7 : Int32) from by unfold f0_s0_89; simp only [if_neg hc60, if_pos hc69])
            try rw [eq17] at k
            refine pre16 t ?_
            show Steps p.tables e below (T2.setTop (mkF m 69 #[.val (.int p1), .val (.int (f0_v6 p1)), .val (.int (f1 (f0_v6 p1))), .val (.int (f0_s0_57 p1)), .unset, .unset, .unset, .unset, .unset, .unset, .unset] [(.int (2 : Int32)), (.int (f1 (f0_v6 p1)))])) _
            refine XS.icmpNo X2.here hx rfl (hb hby at_69) rfl (teq hc69).2 ?_
            show Steps p.tables e below (T2.setTop (mkF m 72 #[.val (.int p1), .val (.int (f0_v6 p1)), .val (.int (f1 (f0_v6 p1))), .val (.int (f0_s0_57 p1)), .unset, .unset, .unset, .unset, .unset, .unset, .unset] [])) _
            refine XS.bipush X2.here hx rfl (hb hby at_72) ?_
            show Steps p.tables e below (T2.setTop (mkF m 74 #[.val (.int p1), .val (.int (f0_v6 p1)), .val (.int (f1 (f0_v6 p1))), .val (.int (f0_s0_57 p1)), .unset, .unset, .unset, .unset, .unset, .unset, .unset] [(.int (7 : Int32))])) _
            refine XS.goto X2.here hx rfl (pc0 := 74) (pc' := 89) rfl (hb hby at_74) (by decide) (by decide) ?_
            exact k
          · have pre18 : ∀ t, Steps p.tables e below (T2.setTop (mkF m 79 #[.val (.int p1), .val (.int (f0_v6 p1)), .val (.int (f1 (f0_v6 p1))), .val (.int (f0_s0_57 p1)), .unset, .unset, .unset, .unset, .unset, .unset, .unset] [(.int (3 : Int32)), (.int (f1 (f0_v6 p1)))])) t → Steps p.tables e below (s₁.setTop (entryFrame m #[(.int p1)] maxLocals)) t := by
              intro t k
              refine pre16 t ?_
              show Steps p.tables e below (T2.setTop (mkF m 69 #[.val (.int p1), .val (.int (f0_v6 p1)), .val (.int (f1 (f0_v6 p1))), .val (.int (f0_s0_57 p1)), .unset, .unset, .unset, .unset, .unset, .unset, .unset] [(.int (2 : Int32)), (.int (f1 (f0_v6 p1)))])) _
              refine XS.icmpYes X2.here hx rfl (pc0 := 69) (pc' := 77) rfl (hb hby at_69) rfl (feq hc69).2 (by decide) (by decide) ?_
              show Steps p.tables e below (T2.setTop (mkF m 77 #[.val (.int p1), .val (.int (f0_v6 p1)), .val (.int (f1 (f0_v6 p1))), .val (.int (f0_s0_57 p1)), .unset, .unset, .unset, .unset, .unset, .unset, .unset] [])) _
              refine XS.iloadN X2.here hx rfl (hb hby at_77) rfl ?_
              show Steps p.tables e below (T2.setTop (mkF m 78 #[.val (.int p1), .val (.int (f0_v6 p1)), .val (.int (f1 (f0_v6 p1))), .val (.int (f0_s0_57 p1)), .unset, .unset, .unset, .unset, .unset, .unset, .unset] [(.int (f1 (f0_v6 p1)))])) _
              refine XS.iconst X2.here hx rfl (hb hby at_78) ?_
              exact k
            by_cases hc79 : (f1 (f0_v6 p1)) = (3 : Int32)
            · have eq19 := (show (f0_s0_89 p1) = (11 : Int32) from by unfold f0_s0_89; simp only [if_neg hc60, if_neg hc69, if_pos hc79])
              try rw [eq19] at k
              refine pre18 t ?_
              show Steps p.tables e below (T2.setTop (mkF m 79 #[.val (.int p1), .val (.int (f0_v6 p1)), .val (.int (f1 (f0_v6 p1))), .val (.int (f0_s0_57 p1)), .unset, .unset, .unset, .unset, .unset, .unset, .unset] [(.int (3 : Int32)), (.int (f1 (f0_v6 p1)))])) _
              refine XS.icmpNo X2.here hx rfl (hb hby at_79) rfl (teq hc79).2 ?_
              show Steps p.tables e below (T2.setTop (mkF m 82 #[.val (.int p1), .val (.int (f0_v6 p1)), .val (.int (f1 (f0_v6 p1))), .val (.int (f0_s0_57 p1)), .unset, .unset, .unset, .unset, .unset, .unset, .unset] [])) _
              refine XS.bipush X2.here hx rfl (hb hby at_82) ?_
              show Steps p.tables e below (T2.setTop (mkF m 84 #[.val (.int p1), .val (.int (f0_v6 p1)), .val (.int (f1 (f0_v6 p1))), .val (.int (f0_s0_57 p1)), .unset, .unset, .unset, .unset, .unset, .unset, .unset] [(.int (11 : Int32))])) _
              refine XS.goto X2.here hx rfl (pc0 := 84) (pc' := 89) rfl (hb hby at_84) (by decide) (by decide) ?_
              exact k
            · have eq20 := (show (f0_s0_89 p1) = (16 : Int32) from by unfold f0_s0_89; simp only [if_neg hc60, if_neg hc69, if_neg hc79])
              try rw [eq20] at k
              refine pre18 t ?_
              show Steps p.tables e below (T2.setTop (mkF m 79 #[.val (.int p1), .val (.int (f0_v6 p1)), .val (.int (f1 (f0_v6 p1))), .val (.int (f0_s0_57 p1)), .unset, .unset, .unset, .unset, .unset, .unset, .unset] [(.int (3 : Int32)), (.int (f1 (f0_v6 p1)))])) _
              refine XS.icmpYes X2.here hx rfl (pc0 := 79) (pc' := 87) rfl (hb hby at_79) rfl (feq hc79).2 (by decide) (by decide) ?_
              show Steps p.tables e below (T2.setTop (mkF m 87 #[.val (.int p1), .val (.int (f0_v6 p1)), .val (.int (f1 (f0_v6 p1))), .val (.int (f0_s0_57 p1)), .unset, .unset, .unset, .unset, .unset, .unset, .unset] [])) _
              refine XS.bipush X2.here hx rfl (hb hby at_87) ?_
              exact k
      have pre21 : ∀ t, Steps p.tables e below (T2.setTop (mkF m 95 #[.val (.int p1), .val (.int (f0_v6 p1)), .val (.int (f1 (f0_v6 p1))), .val (.int (f0_s0_57 p1)), .val (.int (f0_s0_89 p1)), .unset, .unset, .unset, .unset, .unset, .unset] [(.int ((1 : Int32) <<< ((f0_s0_57 p1) &&& 31))), (.int (f0_v6 p1))])) t → Steps p.tables e below (s₁.setTop (entryFrame m #[(.int p1)] maxLocals)) t := by
        intro t k
        refine pre14 t ?_
        show Steps p.tables e below (T2.setTop (mkF m 89 #[.val (.int p1), .val (.int (f0_v6 p1)), .val (.int (f1 (f0_v6 p1))), .val (.int (f0_s0_57 p1)), .unset, .unset, .unset, .unset, .unset, .unset, .unset] [(.int (f0_s0_89 p1))])) _
        refine XS.istore X2.here hx rfl (hb hby at_89) rfl (l' := #[.val (.int p1), .val (.int (f0_v6 p1)), .val (.int (f1 (f0_v6 p1))), .val (.int (f0_s0_57 p1)), .val (.int (f0_s0_89 p1)), .unset, .unset, .unset, .unset, .unset, .unset]) rfl ?_
        show Steps p.tables e below (T2.setTop (mkF m 91 #[.val (.int p1), .val (.int (f0_v6 p1)), .val (.int (f1 (f0_v6 p1))), .val (.int (f0_s0_57 p1)), .val (.int (f0_s0_89 p1)), .unset, .unset, .unset, .unset, .unset, .unset] [])) _
        refine XS.iloadN X2.here hx rfl (hb hby at_91) rfl ?_
        show Steps p.tables e below (T2.setTop (mkF m 92 #[.val (.int p1), .val (.int (f0_v6 p1)), .val (.int (f1 (f0_v6 p1))), .val (.int (f0_s0_57 p1)), .val (.int (f0_s0_89 p1)), .unset, .unset, .unset, .unset, .unset, .unset] [(.int (f0_v6 p1))])) _
        refine XS.iconst X2.here hx rfl (hb hby at_92) ?_
        show Steps p.tables e below (T2.setTop (mkF m 93 #[.val (.int p1), .val (.int (f0_v6 p1)), .val (.int (f1 (f0_v6 p1))), .val (.int (f0_s0_57 p1)), .val (.int (f0_s0_89 p1)), .unset, .unset, .unset, .unset, .unset, .unset] [(.int (1 : Int32)), (.int (f0_v6 p1))])) _
        refine XS.iloadN X2.here hx rfl (hb hby at_93) rfl ?_
        show Steps p.tables e below (T2.setTop (mkF m 94 #[.val (.int p1), .val (.int (f0_v6 p1)), .val (.int (f1 (f0_v6 p1))), .val (.int (f0_s0_57 p1)), .val (.int (f0_s0_89 p1)), .unset, .unset, .unset, .unset, .unset, .unset] [(.int (f0_s0_57 p1)), (.int (1 : Int32)), (.int (f0_v6 p1))])) _
        refine XS.ishl X2.here hx rfl (hb hby at_94) rfl ?_
        exact k
      have pre22 : ∀ t, Steps p.tables e below (T2.setTop (mkF m 103 #[.val (.int p1), .val (.int (f0_v6 p1)), .val (.int (f1 (f0_v6 p1))), .val (.int (f0_s0_57 p1)), .val (.int (f0_s0_89 p1)), .unset, .unset, .unset, .unset, .unset, .unset] [(.int (f0_s0_103 p1))])) t → Steps p.tables e below (s₁.setTop (entryFrame m #[(.int p1)] maxLocals)) t := by
        intro t k
        by_cases hc95 : (f0_v6 p1) < ((1 : Int32) <<< ((f0_s0_57 p1) &&& 31))
        · have eq23 := (show (f0_s0_103 p1) = (1 : Int32) from by unfold f0_s0_103; simp only [if_pos hc95])
          try rw [eq23] at k
          refine pre21 t ?_
          show Steps p.tables e below (T2.setTop (mkF m 95 #[.val (.int p1), .val (.int (f0_v6 p1)), .val (.int (f1 (f0_v6 p1))), .val (.int (f0_s0_57 p1)), .val (.int (f0_s0_89 p1)), .unset, .unset, .unset, .unset, .unset, .unset] [(.int ((1 : Int32) <<< ((f0_s0_57 p1) &&& 31))), (.int (f0_v6 p1))])) _
          refine XS.icmpNo X2.here hx rfl (hb hby at_95) rfl (tlt hc95).2.1 ?_
          show Steps p.tables e below (T2.setTop (mkF m 98 #[.val (.int p1), .val (.int (f0_v6 p1)), .val (.int (f1 (f0_v6 p1))), .val (.int (f0_s0_57 p1)), .val (.int (f0_s0_89 p1)), .unset, .unset, .unset, .unset, .unset, .unset] [])) _
          refine XS.iconst X2.here hx rfl (hb hby at_98) ?_
          show Steps p.tables e below (T2.setTop (mkF m 99 #[.val (.int p1), .val (.int (f0_v6 p1)), .val (.int (f1 (f0_v6 p1))), .val (.int (f0_s0_57 p1)), .val (.int (f0_s0_89 p1)), .unset, .unset, .unset, .unset, .unset, .unset] [(.int (1 : Int32))])) _
          refine XS.goto X2.here hx rfl (pc0 := 99) (pc' := 103) rfl (hb hby at_99) (by decide) (by decide) ?_
          exact k
        · have eq24 := (show (f0_s0_103 p1) = (0 : Int32) from by unfold f0_s0_103; simp only [if_neg hc95])
          try rw [eq24] at k
          refine pre21 t ?_
          show Steps p.tables e below (T2.setTop (mkF m 95 #[.val (.int p1), .val (.int (f0_v6 p1)), .val (.int (f1 (f0_v6 p1))), .val (.int (f0_s0_57 p1)), .val (.int (f0_s0_89 p1)), .unset, .unset, .unset, .unset, .unset, .unset] [(.int ((1 : Int32) <<< ((f0_s0_57 p1) &&& 31))), (.int (f0_v6 p1))])) _
          refine XS.icmpYes X2.here hx rfl (pc0 := 95) (pc' := 102) rfl (hb hby at_95) rfl (flt hc95).2.1 (by decide) (by decide) ?_
          show Steps p.tables e below (T2.setTop (mkF m 102 #[.val (.int p1), .val (.int (f0_v6 p1)), .val (.int (f1 (f0_v6 p1))), .val (.int (f0_s0_57 p1)), .val (.int (f0_s0_89 p1)), .unset, .unset, .unset, .unset, .unset, .unset] [])) _
          refine XS.iconst X2.here hx rfl (hb hby at_102) ?_
          exact k
      have pre25 : ∀ t, Steps p.tables e below (T2.setTop (mkF m 107 #[.val (.int p1), .val (.int (f0_v6 p1)), .val (.int (f1 (f0_v6 p1))), .val (.int (f0_s0_57 p1)), .val (.int (f0_s0_89 p1)), .val (.int (f0_s0_103 p1)), .unset, .unset, .unset, .unset, .unset] [(.int (1 : Int32)), (.int (f1 (f0_v6 p1)))])) t → Steps p.tables e below (s₁.setTop (entryFrame m #[(.int p1)] maxLocals)) t := by
        intro t k
        refine pre22 t ?_
        show Steps p.tables e below (T2.setTop (mkF m 103 #[.val (.int p1), .val (.int (f0_v6 p1)), .val (.int (f1 (f0_v6 p1))), .val (.int (f0_s0_57 p1)), .val (.int (f0_s0_89 p1)), .unset, .unset, .unset, .unset, .unset, .unset] [(.int (f0_s0_103 p1))])) _
        refine XS.istore X2.here hx rfl (hb hby at_103) rfl (l' := #[.val (.int p1), .val (.int (f0_v6 p1)), .val (.int (f1 (f0_v6 p1))), .val (.int (f0_s0_57 p1)), .val (.int (f0_s0_89 p1)), .val (.int (f0_s0_103 p1)), .unset, .unset, .unset, .unset, .unset]) rfl ?_
        show Steps p.tables e below (T2.setTop (mkF m 105 #[.val (.int p1), .val (.int (f0_v6 p1)), .val (.int (f1 (f0_v6 p1))), .val (.int (f0_s0_57 p1)), .val (.int (f0_s0_89 p1)), .val (.int (f0_s0_103 p1)), .unset, .unset, .unset, .unset, .unset] [])) _
        refine XS.iloadN X2.here hx rfl (hb hby at_105) rfl ?_
        show Steps p.tables e below (T2.setTop (mkF m 106 #[.val (.int p1), .val (.int (f0_v6 p1)), .val (.int (f1 (f0_v6 p1))), .val (.int (f0_s0_57 p1)), .val (.int (f0_s0_89 p1)), .val (.int (f0_s0_103 p1)), .unset, .unset, .unset, .unset, .unset] [(.int (f1 (f0_v6 p1)))])) _
        refine XS.iconst X2.here hx rfl (hb hby at_106) ?_
        exact k
      have pre26 : ∀ t, Steps p.tables e below (T2.setTop (mkF m 123 #[.val (.int p1), .val (.int (f0_v6 p1)), .val (.int (f1 (f0_v6 p1))), .val (.int (f0_s0_57 p1)), .val (.int (f0_s0_89 p1)), .val (.int (f0_s0_103 p1)), .unset, .unset, .unset, .unset, .unset] [(.int (f0_s0_123 p1))])) t → Steps p.tables e below (s₁.setTop (entryFrame m #[(.int p1)] maxLocals)) t := by
        intro t k
        by_cases hc107 : (f1 (f0_v6 p1)) = (1 : Int32)
        · have eq27 := (show (f0_s0_123 p1) = (1 : Int32) from by unfold f0_s0_123; simp only [if_pos hc107])
          try rw [eq27] at k
          refine pre25 t ?_
          show Steps p.tables e below (T2.setTop (mkF m 107 #[.val (.int p1), .val (.int (f0_v6 p1)), .val (.int (f1 (f0_v6 p1))), .val (.int (f0_s0_57 p1)), .val (.int (f0_s0_89 p1)), .val (.int (f0_s0_103 p1)), .unset, .unset, .unset, .unset, .unset] [(.int (1 : Int32)), (.int (f1 (f0_v6 p1)))])) _
          refine XS.icmpYes X2.here hx rfl (pc0 := 107) (pc' := 118) rfl (hb hby at_107) rfl (teq hc107).1 (by decide) (by decide) ?_
          show Steps p.tables e below (T2.setTop (mkF m 118 #[.val (.int p1), .val (.int (f0_v6 p1)), .val (.int (f1 (f0_v6 p1))), .val (.int (f0_s0_57 p1)), .val (.int (f0_s0_89 p1)), .val (.int (f0_s0_103 p1)), .unset, .unset, .unset, .unset, .unset] [])) _
          refine XS.iconst X2.here hx rfl (hb hby at_118) ?_
          show Steps p.tables e below (T2.setTop (mkF m 119 #[.val (.int p1), .val (.int (f0_v6 p1)), .val (.int (f1 (f0_v6 p1))), .val (.int (f0_s0_57 p1)), .val (.int (f0_s0_89 p1)), .val (.int (f0_s0_103 p1)), .unset, .unset, .unset, .unset, .unset] [(.int (1 : Int32))])) _
          refine XS.goto X2.here hx rfl (pc0 := 119) (pc' := 123) rfl (hb hby at_119) (by decide) (by decide) ?_
          exact k
        · have pre28 : ∀ t, Steps p.tables e below (T2.setTop (mkF m 115 #[.val (.int p1), .val (.int (f0_v6 p1)), .val (.int (f1 (f0_v6 p1))), .val (.int (f0_s0_57 p1)), .val (.int (f0_s0_89 p1)), .val (.int (f0_s0_103 p1)), .unset, .unset, .unset, .unset, .unset] [(.int ((1 : Int32) <<< ((f0_s0_89 p1) &&& 31))), (.int (f0_v6 p1))])) t → Steps p.tables e below (s₁.setTop (entryFrame m #[(.int p1)] maxLocals)) t := by
            intro t k
            refine pre25 t ?_
            show Steps p.tables e below (T2.setTop (mkF m 107 #[.val (.int p1), .val (.int (f0_v6 p1)), .val (.int (f1 (f0_v6 p1))), .val (.int (f0_s0_57 p1)), .val (.int (f0_s0_89 p1)), .val (.int (f0_s0_103 p1)), .unset, .unset, .unset, .unset, .unset] [(.int (1 : Int32)), (.int (f1 (f0_v6 p1)))])) _
            refine XS.icmpNo X2.here hx rfl (hb hby at_107) rfl (feq hc107).1 ?_
            show Steps p.tables e below (T2.setTop (mkF m 110 #[.val (.int p1), .val (.int (f0_v6 p1)), .val (.int (f1 (f0_v6 p1))), .val (.int (f0_s0_57 p1)), .val (.int (f0_s0_89 p1)), .val (.int (f0_s0_103 p1)), .unset, .unset, .unset, .unset, .unset] [])) _
            refine XS.iloadN X2.here hx rfl (hb hby at_110) rfl ?_
            show Steps p.tables e below (T2.setTop (mkF m 111 #[.val (.int p1), .val (.int (f0_v6 p1)), .val (.int (f1 (f0_v6 p1))), .val (.int (f0_s0_57 p1)), .val (.int (f0_s0_89 p1)), .val (.int (f0_s0_103 p1)), .unset, .unset, .unset, .unset, .unset] [(.int (f0_v6 p1))])) _
            refine XS.iconst X2.here hx rfl (hb hby at_111) ?_
            show Steps p.tables e below (T2.setTop (mkF m 112 #[.val (.int p1), .val (.int (f0_v6 p1)), .val (.int (f1 (f0_v6 p1))), .val (.int (f0_s0_57 p1)), .val (.int (f0_s0_89 p1)), .val (.int (f0_s0_103 p1)), .unset, .unset, .unset, .unset, .unset] [(.int (1 : Int32)), (.int (f0_v6 p1))])) _
            refine XS.iload X2.here hx rfl (hb hby at_112) rfl ?_
            show Steps p.tables e below (T2.setTop (mkF m 114 #[.val (.int p1), .val (.int (f0_v6 p1)), .val (.int (f1 (f0_v6 p1))), .val (.int (f0_s0_57 p1)), .val (.int (f0_s0_89 p1)), .val (.int (f0_s0_103 p1)), .unset, .unset, .unset, .unset, .unset] [(.int (f0_s0_89 p1)), (.int (1 : Int32)), (.int (f0_v6 p1))])) _
            refine XS.ishl X2.here hx rfl (hb hby at_114) rfl ?_
            exact k
          by_cases hc115 : (f0_v6 p1) < ((1 : Int32) <<< ((f0_s0_89 p1) &&& 31))
          · have eq29 := (show (f0_s0_123 p1) = (0 : Int32) from by unfold f0_s0_123; simp only [if_neg hc107, if_pos hc115])
            try rw [eq29] at k
            refine pre28 t ?_
            show Steps p.tables e below (T2.setTop (mkF m 115 #[.val (.int p1), .val (.int (f0_v6 p1)), .val (.int (f1 (f0_v6 p1))), .val (.int (f0_s0_57 p1)), .val (.int (f0_s0_89 p1)), .val (.int (f0_s0_103 p1)), .unset, .unset, .unset, .unset, .unset] [(.int ((1 : Int32) <<< ((f0_s0_89 p1) &&& 31))), (.int (f0_v6 p1))])) _
            refine XS.icmpYes X2.here hx rfl (pc0 := 115) (pc' := 122) rfl (hb hby at_115) rfl (tlt hc115).1 (by decide) (by decide) ?_
            show Steps p.tables e below (T2.setTop (mkF m 122 #[.val (.int p1), .val (.int (f0_v6 p1)), .val (.int (f1 (f0_v6 p1))), .val (.int (f0_s0_57 p1)), .val (.int (f0_s0_89 p1)), .val (.int (f0_s0_103 p1)), .unset, .unset, .unset, .unset, .unset] [])) _
            refine XS.iconst X2.here hx rfl (hb hby at_122) ?_
            exact k
          · have eq30 := (show (f0_s0_123 p1) = (1 : Int32) from by unfold f0_s0_123; simp only [if_neg hc107, if_neg hc115])
            try rw [eq30] at k
            refine pre28 t ?_
            show Steps p.tables e below (T2.setTop (mkF m 115 #[.val (.int p1), .val (.int (f0_v6 p1)), .val (.int (f1 (f0_v6 p1))), .val (.int (f0_s0_57 p1)), .val (.int (f0_s0_89 p1)), .val (.int (f0_s0_103 p1)), .unset, .unset, .unset, .unset, .unset] [(.int ((1 : Int32) <<< ((f0_s0_89 p1) &&& 31))), (.int (f0_v6 p1))])) _
            refine XS.icmpNo X2.here hx rfl (hb hby at_115) rfl (flt hc115).1 ?_
            show Steps p.tables e below (T2.setTop (mkF m 118 #[.val (.int p1), .val (.int (f0_v6 p1)), .val (.int (f1 (f0_v6 p1))), .val (.int (f0_s0_57 p1)), .val (.int (f0_s0_89 p1)), .val (.int (f0_s0_103 p1)), .unset, .unset, .unset, .unset, .unset] [])) _
            refine XS.iconst X2.here hx rfl (hb hby at_118) ?_
            show Steps p.tables e below (T2.setTop (mkF m 119 #[.val (.int p1), .val (.int (f0_v6 p1)), .val (.int (f1 (f0_v6 p1))), .val (.int (f0_s0_57 p1)), .val (.int (f0_s0_89 p1)), .val (.int (f0_s0_103 p1)), .unset, .unset, .unset, .unset, .unset] [(.int (1 : Int32))])) _
            refine XS.goto X2.here hx rfl (pc0 := 119) (pc' := 123) rfl (hb hby at_119) (by decide) (by decide) ?_
            exact k
      obtain ⟨_, _, ⟨T3, L3, k3, n3⟩, -, X3, ⟨Lc3, hQ3, l3, y3, z3⟩, st3⟩ := Jvm.LawKit.callS X2 hx (y := (⟨"com/example/ringward/ringward/Utf8", "encode", "(I)I"⟩ : MethodName)) hown (mvT hZ (hw _ (List.mem_of_getElem? (i := 6) rfl))) (mvT hZ (hw _ (List.mem_of_getElem? (i := 7) rfl))) (mvT hZ (hw _ (List.mem_of_getElem? (i := 4) rfl))) (mvT hZ (hw _ (List.mem_of_getElem? (i := 8) rfl))) (by decide) (backOf (W := 0) (rm2 l Z a0 hw [] (f0_v6 p1) h0 n0 Z0 ) hZ (hw _ (List.mem_of_getElem? (i := 8) rfl)) (hw _ (List.mem_of_getElem? (i := 4) rfl)) (by decide) (by decide)) (g := (mkF m 126 #[.val (.int p1), .val (.int (f0_v6 p1)), .val (.int (f1 (f0_v6 p1))), .val (.int (f0_s0_57 p1)), .val (.int (f0_s0_89 p1)), .val (.int (f0_s0_103 p1)), .val (.int (f0_s0_123 p1)), .unset, .unset, .unset, .unset] [(.int (f0_v6 p1))])) rfl (by rw [hml]; rfl) (argsL := [(.int (f0_v6 p1))]) (rest := []) (lenOf pd_0 rfl) rfl (by show 2 * 0 + _ ≤ _; exact Nat.le_of_eq rfl) (hb hby at_126) (fun _ _ => ⟨rfl, e2, (by decide : 0 + 0 ≤ _), (by decide : 0 + 0 ≤ _)⟩)
      dsimp only [Pt.U, Pt.locs, Pt.cells, Pt.slots] at X3 l3 y3 z3 st3 hQ3
      subst l3 y3 z3
      obtain ⟨rfl, N3q, e3⟩ := hQ3
      have N3 := Fr.app N2 N3q
      have pre31 : ∀ t, Steps p.tables e below (T3.setTop (mkF m 144 #[.val (.int p1), .val (.int (f0_v6 p1)), .val (.int (f1 (f0_v6 p1))), .val (.int (f0_s0_57 p1)), .val (.int (f0_s0_89 p1)), .val (.int (f0_s0_103 p1)), .val (.int (f0_s0_123 p1)), .val (.int (f2 (f0_v6 p1))), .val (.int ((f2 (f0_v6 p1)) &&& (255 : Int32))), .unset, .unset] [(.int (128 : Int32)), (.int ((f2 (f0_v6 p1)) &&& (255 : Int32)))])) t → Steps p.tables e below (s₁.setTop (entryFrame m #[(.int p1)] maxLocals)) t := by
        intro t k
        refine pre26 t ?_
        show Steps p.tables e below (T2.setTop (mkF m 123 #[.val (.int p1), .val (.int (f0_v6 p1)), .val (.int (f1 (f0_v6 p1))), .val (.int (f0_s0_57 p1)), .val (.int (f0_s0_89 p1)), .val (.int (f0_s0_103 p1)), .unset, .unset, .unset, .unset, .unset] [(.int (f0_s0_123 p1))])) _
        refine XS.istore X2.here hx rfl (hb hby at_123) rfl (l' := #[.val (.int p1), .val (.int (f0_v6 p1)), .val (.int (f1 (f0_v6 p1))), .val (.int (f0_s0_57 p1)), .val (.int (f0_s0_89 p1)), .val (.int (f0_s0_103 p1)), .val (.int (f0_s0_123 p1)), .unset, .unset, .unset, .unset]) rfl ?_
        show Steps p.tables e below (T2.setTop (mkF m 125 #[.val (.int p1), .val (.int (f0_v6 p1)), .val (.int (f1 (f0_v6 p1))), .val (.int (f0_s0_57 p1)), .val (.int (f0_s0_89 p1)), .val (.int (f0_s0_103 p1)), .val (.int (f0_s0_123 p1)), .unset, .unset, .unset, .unset] [])) _
        refine XS.iloadN X2.here hx rfl (hb hby at_125) rfl ?_
        show Steps p.tables e below (T2.setTop (mkF m 126 #[.val (.int p1), .val (.int (f0_v6 p1)), .val (.int (f1 (f0_v6 p1))), .val (.int (f0_s0_57 p1)), .val (.int (f0_s0_89 p1)), .val (.int (f0_s0_103 p1)), .val (.int (f0_s0_123 p1)), .unset, .unset, .unset, .unset] [(.int (f0_v6 p1))])) _
        refine st3 _ ?_
        show Steps p.tables e below (T3.setTop (mkF m 129 #[.val (.int p1), .val (.int (f0_v6 p1)), .val (.int (f1 (f0_v6 p1))), .val (.int (f0_s0_57 p1)), .val (.int (f0_s0_89 p1)), .val (.int (f0_s0_103 p1)), .val (.int (f0_s0_123 p1)), .unset, .unset, .unset, .unset] [(.int (f2 (f0_v6 p1)))])) _
        refine XS.istore X3.here hx rfl (hb hby at_129) rfl (l' := #[.val (.int p1), .val (.int (f0_v6 p1)), .val (.int (f1 (f0_v6 p1))), .val (.int (f0_s0_57 p1)), .val (.int (f0_s0_89 p1)), .val (.int (f0_s0_103 p1)), .val (.int (f0_s0_123 p1)), .val (.int (f2 (f0_v6 p1))), .unset, .unset, .unset]) rfl ?_
        show Steps p.tables e below (T3.setTop (mkF m 131 #[.val (.int p1), .val (.int (f0_v6 p1)), .val (.int (f1 (f0_v6 p1))), .val (.int (f0_s0_57 p1)), .val (.int (f0_s0_89 p1)), .val (.int (f0_s0_103 p1)), .val (.int (f0_s0_123 p1)), .val (.int (f2 (f0_v6 p1))), .unset, .unset, .unset] [])) _
        refine XS.iload X3.here hx rfl (hb hby at_131) rfl ?_
        show Steps p.tables e below (T3.setTop (mkF m 133 #[.val (.int p1), .val (.int (f0_v6 p1)), .val (.int (f1 (f0_v6 p1))), .val (.int (f0_s0_57 p1)), .val (.int (f0_s0_89 p1)), .val (.int (f0_s0_103 p1)), .val (.int (f0_s0_123 p1)), .val (.int (f2 (f0_v6 p1))), .unset, .unset, .unset] [(.int (f2 (f0_v6 p1)))])) _
        refine XS.sipush X3.here hx rfl (hb hby at_133) ?_
        show Steps p.tables e below (T3.setTop (mkF m 136 #[.val (.int p1), .val (.int (f0_v6 p1)), .val (.int (f1 (f0_v6 p1))), .val (.int (f0_s0_57 p1)), .val (.int (f0_s0_89 p1)), .val (.int (f0_s0_103 p1)), .val (.int (f0_s0_123 p1)), .val (.int (f2 (f0_v6 p1))), .unset, .unset, .unset] [(.int (255 : Int32)), (.int (f2 (f0_v6 p1)))])) _
        refine XS.iand X3.here hx rfl (hb hby at_136) rfl ?_
        show Steps p.tables e below (T3.setTop (mkF m 137 #[.val (.int p1), .val (.int (f0_v6 p1)), .val (.int (f1 (f0_v6 p1))), .val (.int (f0_s0_57 p1)), .val (.int (f0_s0_89 p1)), .val (.int (f0_s0_103 p1)), .val (.int (f0_s0_123 p1)), .val (.int (f2 (f0_v6 p1))), .unset, .unset, .unset] [(.int ((f2 (f0_v6 p1)) &&& (255 : Int32)))])) _
        refine XS.istore X3.here hx rfl (hb hby at_137) rfl (l' := #[.val (.int p1), .val (.int (f0_v6 p1)), .val (.int (f1 (f0_v6 p1))), .val (.int (f0_s0_57 p1)), .val (.int (f0_s0_89 p1)), .val (.int (f0_s0_103 p1)), .val (.int (f0_s0_123 p1)), .val (.int (f2 (f0_v6 p1))), .val (.int ((f2 (f0_v6 p1)) &&& (255 : Int32))), .unset, .unset]) rfl ?_
        show Steps p.tables e below (T3.setTop (mkF m 139 #[.val (.int p1), .val (.int (f0_v6 p1)), .val (.int (f1 (f0_v6 p1))), .val (.int (f0_s0_57 p1)), .val (.int (f0_s0_89 p1)), .val (.int (f0_s0_103 p1)), .val (.int (f0_s0_123 p1)), .val (.int (f2 (f0_v6 p1))), .val (.int ((f2 (f0_v6 p1)) &&& (255 : Int32))), .unset, .unset] [])) _
        refine XS.iload X3.here hx rfl (hb hby at_139) rfl ?_
        show Steps p.tables e below (T3.setTop (mkF m 141 #[.val (.int p1), .val (.int (f0_v6 p1)), .val (.int (f1 (f0_v6 p1))), .val (.int (f0_s0_57 p1)), .val (.int (f0_s0_89 p1)), .val (.int (f0_s0_103 p1)), .val (.int (f0_s0_123 p1)), .val (.int (f2 (f0_v6 p1))), .val (.int ((f2 (f0_v6 p1)) &&& (255 : Int32))), .unset, .unset] [(.int ((f2 (f0_v6 p1)) &&& (255 : Int32)))])) _
        refine XS.sipush X3.here hx rfl (hb hby at_141) ?_
        exact k
      have pre32 : ∀ t, Steps p.tables e below (T3.setTop (mkF m 210 #[.val (.int p1), .val (.int (f0_v6 p1)), .val (.int (f1 (f0_v6 p1))), .val (.int (f0_s0_57 p1)), .val (.int (f0_s0_89 p1)), .val (.int (f0_s0_103 p1)), .val (.int (f0_s0_123 p1)), .val (.int (f2 (f0_v6 p1))), .val (.int ((f2 (f0_v6 p1)) &&& (255 : Int32))), .val (.int (f0_l9_210 p1)), .unset] [])) t → Steps p.tables e below (s₁.setTop (entryFrame m #[(.int p1)] maxLocals)) t := by
        intro t k
        by_cases hc144 : ((f2 (f0_v6 p1)) &&& (255 : Int32)) < (128 : Int32)
        · have eq33 := (show (f0_l9_210 p1) = (1 : Int32) from by unfold f0_l9_210; simp only [if_pos hc144])
          try rw [eq33] at k
          refine pre31 t ?_
          show Steps p.tables e below (T3.setTop (mkF m 144 #[.val (.int p1), .val (.int (f0_v6 p1)), .val (.int (f1 (f0_v6 p1))), .val (.int (f0_s0_57 p1)), .val (.int (f0_s0_89 p1)), .val (.int (f0_s0_103 p1)), .val (.int (f0_s0_123 p1)), .val (.int (f2 (f0_v6 p1))), .val (.int ((f2 (f0_v6 p1)) &&& (255 : Int32))), .unset, .unset] [(.int (128 : Int32)), (.int ((f2 (f0_v6 p1)) &&& (255 : Int32)))])) _
          refine XS.icmpNo X3.here hx rfl (hb hby at_144) rfl (tlt hc144).2.1 ?_
          show Steps p.tables e below (T3.setTop (mkF m 147 #[.val (.int p1), .val (.int (f0_v6 p1)), .val (.int (f1 (f0_v6 p1))), .val (.int (f0_s0_57 p1)), .val (.int (f0_s0_89 p1)), .val (.int (f0_s0_103 p1)), .val (.int (f0_s0_123 p1)), .val (.int (f2 (f0_v6 p1))), .val (.int ((f2 (f0_v6 p1)) &&& (255 : Int32))), .unset, .unset] [])) _
          refine XS.iconst X3.here hx rfl (hb hby at_147) ?_
          show Steps p.tables e below (T3.setTop (mkF m 148 #[.val (.int p1), .val (.int (f0_v6 p1)), .val (.int (f1 (f0_v6 p1))), .val (.int (f0_s0_57 p1)), .val (.int (f0_s0_89 p1)), .val (.int (f0_s0_103 p1)), .val (.int (f0_s0_123 p1)), .val (.int (f2 (f0_v6 p1))), .val (.int ((f2 (f0_v6 p1)) &&& (255 : Int32))), .unset, .unset] [(.int (1 : Int32))])) _
          refine XS.istore X3.here hx rfl (hb hby at_148) rfl (l' := #[.val (.int p1), .val (.int (f0_v6 p1)), .val (.int (f1 (f0_v6 p1))), .val (.int (f0_s0_57 p1)), .val (.int (f0_s0_89 p1)), .val (.int (f0_s0_103 p1)), .val (.int (f0_s0_123 p1)), .val (.int (f2 (f0_v6 p1))), .val (.int ((f2 (f0_v6 p1)) &&& (255 : Int32))), .val (.int (1 : Int32)), .unset]) rfl ?_
          show Steps p.tables e below (T3.setTop (mkF m 150 #[.val (.int p1), .val (.int (f0_v6 p1)), .val (.int (f1 (f0_v6 p1))), .val (.int (f0_s0_57 p1)), .val (.int (f0_s0_89 p1)), .val (.int (f0_s0_103 p1)), .val (.int (f0_s0_123 p1)), .val (.int (f2 (f0_v6 p1))), .val (.int ((f2 (f0_v6 p1)) &&& (255 : Int32))), .val (.int (1 : Int32)), .unset] [])) _
          refine XS.goto X3.here hx rfl (pc0 := 150) (pc' := 210) rfl (hb hby at_150) (by decide) (by decide) ?_
          exact k
        · have pre34 : ∀ t, Steps p.tables e below (T3.setTop (mkF m 162 #[.val (.int p1), .val (.int (f0_v6 p1)), .val (.int (f1 (f0_v6 p1))), .val (.int (f0_s0_57 p1)), .val (.int (f0_s0_89 p1)), .val (.int (f0_s0_103 p1)), .val (.int (f0_s0_123 p1)), .val (.int (f2 (f0_v6 p1))), .val (.int ((f2 (f0_v6 p1)) &&& (255 : Int32))), .unset, .unset] [(.int (192 : Int32)), (.int (((f2 (f0_v6 p1)) &&& (255 : Int32)) &&& (224 : Int32)))])) t → Steps p.tables e below (s₁.setTop (entryFrame m #[(.int p1)] maxLocals)) t := by
            intro t k
            refine pre31 t ?_
            show Steps p.tables e below (T3.setTop (mkF m 144 #[.val (.int p1), .val (.int (f0_v6 p1)), .val (.int (f1 (f0_v6 p1))), .val (.int (f0_s0_57 p1)), .val (.int (f0_s0_89 p1)), .val (.int (f0_s0_103 p1)), .val (.int (f0_s0_123 p1)), .val (.int (f2 (f0_v6 p1))), .val (.int ((f2 (f0_v6 p1)) &&& (255 : Int32))), .unset, .unset] [(.int (128 : Int32)), (.int ((f2 (f0_v6 p1)) &&& (255 : Int32)))])) _
            refine XS.icmpYes X3.here hx rfl (pc0 := 144) (pc' := 153) rfl (hb hby at_144) rfl (flt hc144).2.1 (by decide) (by decide) ?_
            show Steps p.tables e below (T3.setTop (mkF m 153 #[.val (.int p1), .val (.int (f0_v6 p1)), .val (.int (f1 (f0_v6 p1))), .val (.int (f0_s0_57 p1)), .val (.int (f0_s0_89 p1)), .val (.int (f0_s0_103 p1)), .val (.int (f0_s0_123 p1)), .val (.int (f2 (f0_v6 p1))), .val (.int ((f2 (f0_v6 p1)) &&& (255 : Int32))), .unset, .unset] [])) _
            refine XS.iload X3.here hx rfl (hb hby at_153) rfl ?_
            show Steps p.tables e below (T3.setTop (mkF m 155 #[.val (.int p1), .val (.int (f0_v6 p1)), .val (.int (f1 (f0_v6 p1))), .val (.int (f0_s0_57 p1)), .val (.int (f0_s0_89 p1)), .val (.int (f0_s0_103 p1)), .val (.int (f0_s0_123 p1)), .val (.int (f2 (f0_v6 p1))), .val (.int ((f2 (f0_v6 p1)) &&& (255 : Int32))), .unset, .unset] [(.int ((f2 (f0_v6 p1)) &&& (255 : Int32)))])) _
            refine XS.sipush X3.here hx rfl (hb hby at_155) ?_
            show Steps p.tables e below (T3.setTop (mkF m 158 #[.val (.int p1), .val (.int (f0_v6 p1)), .val (.int (f1 (f0_v6 p1))), .val (.int (f0_s0_57 p1)), .val (.int (f0_s0_89 p1)), .val (.int (f0_s0_103 p1)), .val (.int (f0_s0_123 p1)), .val (.int (f2 (f0_v6 p1))), .val (.int ((f2 (f0_v6 p1)) &&& (255 : Int32))), .unset, .unset] [(.int (224 : Int32)), (.int ((f2 (f0_v6 p1)) &&& (255 : Int32)))])) _
            refine XS.iand X3.here hx rfl (hb hby at_158) rfl ?_
            show Steps p.tables e below (T3.setTop (mkF m 159 #[.val (.int p1), .val (.int (f0_v6 p1)), .val (.int (f1 (f0_v6 p1))), .val (.int (f0_s0_57 p1)), .val (.int (f0_s0_89 p1)), .val (.int (f0_s0_103 p1)), .val (.int (f0_s0_123 p1)), .val (.int (f2 (f0_v6 p1))), .val (.int ((f2 (f0_v6 p1)) &&& (255 : Int32))), .unset, .unset] [(.int (((f2 (f0_v6 p1)) &&& (255 : Int32)) &&& (224 : Int32)))])) _
            refine XS.sipush X3.here hx rfl (hb hby at_159) ?_
            exact k
          by_cases hc162 : (((f2 (f0_v6 p1)) &&& (255 : Int32)) &&& (224 : Int32)) = (192 : Int32)
          · have eq35 := (show (f0_l9_210 p1) = (2 : Int32) from by unfold f0_l9_210; simp only [if_neg hc144, if_pos hc162])
            try rw [eq35] at k
            refine pre34 t ?_
            show Steps p.tables e below (T3.setTop (mkF m 162 #[.val (.int p1), .val (.int (f0_v6 p1)), .val (.int (f1 (f0_v6 p1))), .val (.int (f0_s0_57 p1)), .val (.int (f0_s0_89 p1)), .val (.int (f0_s0_103 p1)), .val (.int (f0_s0_123 p1)), .val (.int (f2 (f0_v6 p1))), .val (.int ((f2 (f0_v6 p1)) &&& (255 : Int32))), .unset, .unset] [(.int (192 : Int32)), (.int (((f2 (f0_v6 p1)) &&& (255 : Int32)) &&& (224 : Int32)))])) _
            refine XS.icmpNo X3.here hx rfl (hb hby at_162) rfl (teq hc162).2 ?_
            show Steps p.tables e below (T3.setTop (mkF m 165 #[.val (.int p1), .val (.int (f0_v6 p1)), .val (.int (f1 (f0_v6 p1))), .val (.int (f0_s0_57 p1)), .val (.int (f0_s0_89 p1)), .val (.int (f0_s0_103 p1)), .val (.int (f0_s0_123 p1)), .val (.int (f2 (f0_v6 p1))), .val (.int ((f2 (f0_v6 p1)) &&& (255 : Int32))), .unset, .unset] [])) _
            refine XS.iconst X3.here hx rfl (hb hby at_165) ?_
            show Steps p.tables e below (T3.setTop (mkF m 166 #[.val (.int p1), .val (.int (f0_v6 p1)), .val (.int (f1 (f0_v6 p1))), .val (.int (f0_s0_57 p1)), .val (.int (f0_s0_89 p1)), .val (.int (f0_s0_103 p1)), .val (.int (f0_s0_123 p1)), .val (.int (f2 (f0_v6 p1))), .val (.int ((f2 (f0_v6 p1)) &&& (255 : Int32))), .unset, .unset] [(.int (2 : Int32))])) _
            refine XS.istore X3.here hx rfl (hb hby at_166) rfl (l' := #[.val (.int p1), .val (.int (f0_v6 p1)), .val (.int (f1 (f0_v6 p1))), .val (.int (f0_s0_57 p1)), .val (.int (f0_s0_89 p1)), .val (.int (f0_s0_103 p1)), .val (.int (f0_s0_123 p1)), .val (.int (f2 (f0_v6 p1))), .val (.int ((f2 (f0_v6 p1)) &&& (255 : Int32))), .val (.int (2 : Int32)), .unset]) rfl ?_
            show Steps p.tables e below (T3.setTop (mkF m 168 #[.val (.int p1), .val (.int (f0_v6 p1)), .val (.int (f1 (f0_v6 p1))), .val (.int (f0_s0_57 p1)), .val (.int (f0_s0_89 p1)), .val (.int (f0_s0_103 p1)), .val (.int (f0_s0_123 p1)), .val (.int (f2 (f0_v6 p1))), .val (.int ((f2 (f0_v6 p1)) &&& (255 : Int32))), .val (.int (2 : Int32)), .unset] [])) _
            refine XS.goto X3.here hx rfl (pc0 := 168) (pc' := 210) rfl (hb hby at_168) (by decide) (by decide) ?_
            exact k
          · have pre36 : ∀ t, Steps p.tables e below (T3.setTop (mkF m 180 #[.val (.int p1), .val (.int (f0_v6 p1)), .val (.int (f1 (f0_v6 p1))), .val (.int (f0_s0_57 p1)), .val (.int (f0_s0_89 p1)), .val (.int (f0_s0_103 p1)), .val (.int (f0_s0_123 p1)), .val (.int (f2 (f0_v6 p1))), .val (.int ((f2 (f0_v6 p1)) &&& (255 : Int32))), .unset, .unset] [(.int (224 : Int32)), (.int (((f2 (f0_v6 p1)) &&& (255 : Int32)) &&& (240 : Int32)))])) t → Steps p.tables e below (s₁.setTop (entryFrame m #[(.int p1)] maxLocals)) t := by
              intro t k
              refine pre34 t ?_
              show Steps p.tables e below (T3.setTop (mkF m 162 #[.val (.int p1), .val (.int (f0_v6 p1)), .val (.int (f1 (f0_v6 p1))), .val (.int (f0_s0_57 p1)), .val (.int (f0_s0_89 p1)), .val (.int (f0_s0_103 p1)), .val (.int (f0_s0_123 p1)), .val (.int (f2 (f0_v6 p1))), .val (.int ((f2 (f0_v6 p1)) &&& (255 : Int32))), .unset, .unset] [(.int (192 : Int32)), (.int (((f2 (f0_v6 p1)) &&& (255 : Int32)) &&& (224 : Int32)))])) _
              refine XS.icmpYes X3.here hx rfl (pc0 := 162) (pc' := 171) rfl (hb hby at_162) rfl (feq hc162).2 (by decide) (by decide) ?_
              show Steps p.tables e below (T3.setTop (mkF m 171 #[.val (.int p1), .val (.int (f0_v6 p1)), .val (.int (f1 (f0_v6 p1))), .val (.int (f0_s0_57 p1)), .val (.int (f0_s0_89 p1)), .val (.int (f0_s0_103 p1)), .val (.int (f0_s0_123 p1)), .val (.int (f2 (f0_v6 p1))), .val (.int ((f2 (f0_v6 p1)) &&& (255 : Int32))), .unset, .unset] [])) _
              refine XS.iload X3.here hx rfl (hb hby at_171) rfl ?_
              show Steps p.tables e below (T3.setTop (mkF m 173 #[.val (.int p1), .val (.int (f0_v6 p1)), .val (.int (f1 (f0_v6 p1))), .val (.int (f0_s0_57 p1)), .val (.int (f0_s0_89 p1)), .val (.int (f0_s0_103 p1)), .val (.int (f0_s0_123 p1)), .val (.int (f2 (f0_v6 p1))), .val (.int ((f2 (f0_v6 p1)) &&& (255 : Int32))), .unset, .unset] [(.int ((f2 (f0_v6 p1)) &&& (255 : Int32)))])) _
              refine XS.sipush X3.here hx rfl (hb hby at_173) ?_
              show Steps p.tables e below (T3.setTop (mkF m 176 #[.val (.int p1), .val (.int (f0_v6 p1)), .val (.int (f1 (f0_v6 p1))), .val (.int (f0_s0_57 p1)), .val (.int (f0_s0_89 p1)), .val (.int (f0_s0_103 p1)), .val (.int (f0_s0_123 p1)), .val (.int (f2 (f0_v6 p1))), .val (.int ((f2 (f0_v6 p1)) &&& (255 : Int32))), .unset, .unset] [(.int (240 : Int32)), (.int ((f2 (f0_v6 p1)) &&& (255 : Int32)))])) _
              refine XS.iand X3.here hx rfl (hb hby at_176) rfl ?_
              show Steps p.tables e below (T3.setTop (mkF m 177 #[.val (.int p1), .val (.int (f0_v6 p1)), .val (.int (f1 (f0_v6 p1))), .val (.int (f0_s0_57 p1)), .val (.int (f0_s0_89 p1)), .val (.int (f0_s0_103 p1)), .val (.int (f0_s0_123 p1)), .val (.int (f2 (f0_v6 p1))), .val (.int ((f2 (f0_v6 p1)) &&& (255 : Int32))), .unset, .unset] [(.int (((f2 (f0_v6 p1)) &&& (255 : Int32)) &&& (240 : Int32)))])) _
              refine XS.sipush X3.here hx rfl (hb hby at_177) ?_
              exact k
            by_cases hc180 : (((f2 (f0_v6 p1)) &&& (255 : Int32)) &&& (240 : Int32)) = (224 : Int32)
            · have eq37 := (show (f0_l9_210 p1) = (3 : Int32) from by unfold f0_l9_210; simp only [if_neg hc144, if_neg hc162, if_pos hc180])
              try rw [eq37] at k
              refine pre36 t ?_
              show Steps p.tables e below (T3.setTop (mkF m 180 #[.val (.int p1), .val (.int (f0_v6 p1)), .val (.int (f1 (f0_v6 p1))), .val (.int (f0_s0_57 p1)), .val (.int (f0_s0_89 p1)), .val (.int (f0_s0_103 p1)), .val (.int (f0_s0_123 p1)), .val (.int (f2 (f0_v6 p1))), .val (.int ((f2 (f0_v6 p1)) &&& (255 : Int32))), .unset, .unset] [(.int (224 : Int32)), (.int (((f2 (f0_v6 p1)) &&& (255 : Int32)) &&& (240 : Int32)))])) _
              refine XS.icmpNo X3.here hx rfl (hb hby at_180) rfl (teq hc180).2 ?_
              show Steps p.tables e below (T3.setTop (mkF m 183 #[.val (.int p1), .val (.int (f0_v6 p1)), .val (.int (f1 (f0_v6 p1))), .val (.int (f0_s0_57 p1)), .val (.int (f0_s0_89 p1)), .val (.int (f0_s0_103 p1)), .val (.int (f0_s0_123 p1)), .val (.int (f2 (f0_v6 p1))), .val (.int ((f2 (f0_v6 p1)) &&& (255 : Int32))), .unset, .unset] [])) _
              refine XS.iconst X3.here hx rfl (hb hby at_183) ?_
              show Steps p.tables e below (T3.setTop (mkF m 184 #[.val (.int p1), .val (.int (f0_v6 p1)), .val (.int (f1 (f0_v6 p1))), .val (.int (f0_s0_57 p1)), .val (.int (f0_s0_89 p1)), .val (.int (f0_s0_103 p1)), .val (.int (f0_s0_123 p1)), .val (.int (f2 (f0_v6 p1))), .val (.int ((f2 (f0_v6 p1)) &&& (255 : Int32))), .unset, .unset] [(.int (3 : Int32))])) _
              refine XS.istore X3.here hx rfl (hb hby at_184) rfl (l' := #[.val (.int p1), .val (.int (f0_v6 p1)), .val (.int (f1 (f0_v6 p1))), .val (.int (f0_s0_57 p1)), .val (.int (f0_s0_89 p1)), .val (.int (f0_s0_103 p1)), .val (.int (f0_s0_123 p1)), .val (.int (f2 (f0_v6 p1))), .val (.int ((f2 (f0_v6 p1)) &&& (255 : Int32))), .val (.int (3 : Int32)), .unset]) rfl ?_
              show Steps p.tables e below (T3.setTop (mkF m 186 #[.val (.int p1), .val (.int (f0_v6 p1)), .val (.int (f1 (f0_v6 p1))), .val (.int (f0_s0_57 p1)), .val (.int (f0_s0_89 p1)), .val (.int (f0_s0_103 p1)), .val (.int (f0_s0_123 p1)), .val (.int (f2 (f0_v6 p1))), .val (.int ((f2 (f0_v6 p1)) &&& (255 : Int32))), .val (.int (3 : Int32)), .unset] [])) _
              refine XS.goto X3.here hx rfl (pc0 := 186) (pc' := 210) rfl (hb hby at_186) (by decide) (by decide) ?_
              exact k
            · have pre38 : ∀ t, Steps p.tables e below (T3.setTop (mkF m 198 #[.val (.int p1), .val (.int (f0_v6 p1)), .val (.int (f1 (f0_v6 p1))), .val (.int (f0_s0_57 p1)), .val (.int (f0_s0_89 p1)), .val (.int (f0_s0_103 p1)), .val (.int (f0_s0_123 p1)), .val (.int (f2 (f0_v6 p1))), .val (.int ((f2 (f0_v6 p1)) &&& (255 : Int32))), .unset, .unset] [(.int (240 : Int32)), (.int (((f2 (f0_v6 p1)) &&& (255 : Int32)) &&& (248 : Int32)))])) t → Steps p.tables e below (s₁.setTop (entryFrame m #[(.int p1)] maxLocals)) t := by
                intro t k
                refine pre36 t ?_
                show Steps p.tables e below (T3.setTop (mkF m 180 #[.val (.int p1), .val (.int (f0_v6 p1)), .val (.int (f1 (f0_v6 p1))), .val (.int (f0_s0_57 p1)), .val (.int (f0_s0_89 p1)), .val (.int (f0_s0_103 p1)), .val (.int (f0_s0_123 p1)), .val (.int (f2 (f0_v6 p1))), .val (.int ((f2 (f0_v6 p1)) &&& (255 : Int32))), .unset, .unset] [(.int (224 : Int32)), (.int (((f2 (f0_v6 p1)) &&& (255 : Int32)) &&& (240 : Int32)))])) _
                refine XS.icmpYes X3.here hx rfl (pc0 := 180) (pc' := 189) rfl (hb hby at_180) rfl (feq hc180).2 (by decide) (by decide) ?_
                show Steps p.tables e below (T3.setTop (mkF m 189 #[.val (.int p1), .val (.int (f0_v6 p1)), .val (.int (f1 (f0_v6 p1))), .val (.int (f0_s0_57 p1)), .val (.int (f0_s0_89 p1)), .val (.int (f0_s0_103 p1)), .val (.int (f0_s0_123 p1)), .val (.int (f2 (f0_v6 p1))), .val (.int ((f2 (f0_v6 p1)) &&& (255 : Int32))), .unset, .unset] [])) _
                refine XS.iload X3.here hx rfl (hb hby at_189) rfl ?_
                show Steps p.tables e below (T3.setTop (mkF m 191 #[.val (.int p1), .val (.int (f0_v6 p1)), .val (.int (f1 (f0_v6 p1))), .val (.int (f0_s0_57 p1)), .val (.int (f0_s0_89 p1)), .val (.int (f0_s0_103 p1)), .val (.int (f0_s0_123 p1)), .val (.int (f2 (f0_v6 p1))), .val (.int ((f2 (f0_v6 p1)) &&& (255 : Int32))), .unset, .unset] [(.int ((f2 (f0_v6 p1)) &&& (255 : Int32)))])) _
                refine XS.sipush X3.here hx rfl (hb hby at_191) ?_
                show Steps p.tables e below (T3.setTop (mkF m 194 #[.val (.int p1), .val (.int (f0_v6 p1)), .val (.int (f1 (f0_v6 p1))), .val (.int (f0_s0_57 p1)), .val (.int (f0_s0_89 p1)), .val (.int (f0_s0_103 p1)), .val (.int (f0_s0_123 p1)), .val (.int (f2 (f0_v6 p1))), .val (.int ((f2 (f0_v6 p1)) &&& (255 : Int32))), .unset, .unset] [(.int (248 : Int32)), (.int ((f2 (f0_v6 p1)) &&& (255 : Int32)))])) _
                refine XS.iand X3.here hx rfl (hb hby at_194) rfl ?_
                show Steps p.tables e below (T3.setTop (mkF m 195 #[.val (.int p1), .val (.int (f0_v6 p1)), .val (.int (f1 (f0_v6 p1))), .val (.int (f0_s0_57 p1)), .val (.int (f0_s0_89 p1)), .val (.int (f0_s0_103 p1)), .val (.int (f0_s0_123 p1)), .val (.int (f2 (f0_v6 p1))), .val (.int ((f2 (f0_v6 p1)) &&& (255 : Int32))), .unset, .unset] [(.int (((f2 (f0_v6 p1)) &&& (255 : Int32)) &&& (248 : Int32)))])) _
                refine XS.sipush X3.here hx rfl (hb hby at_195) ?_
                exact k
              by_cases hc198 : (((f2 (f0_v6 p1)) &&& (255 : Int32)) &&& (248 : Int32)) = (240 : Int32)
              · have eq39 := (show (f0_l9_210 p1) = (4 : Int32) from by unfold f0_l9_210; simp only [if_neg hc144, if_neg hc162, if_neg hc180, if_pos hc198])
                try rw [eq39] at k
                refine pre38 t ?_
                show Steps p.tables e below (T3.setTop (mkF m 198 #[.val (.int p1), .val (.int (f0_v6 p1)), .val (.int (f1 (f0_v6 p1))), .val (.int (f0_s0_57 p1)), .val (.int (f0_s0_89 p1)), .val (.int (f0_s0_103 p1)), .val (.int (f0_s0_123 p1)), .val (.int (f2 (f0_v6 p1))), .val (.int ((f2 (f0_v6 p1)) &&& (255 : Int32))), .unset, .unset] [(.int (240 : Int32)), (.int (((f2 (f0_v6 p1)) &&& (255 : Int32)) &&& (248 : Int32)))])) _
                refine XS.icmpNo X3.here hx rfl (hb hby at_198) rfl (teq hc198).2 ?_
                show Steps p.tables e below (T3.setTop (mkF m 201 #[.val (.int p1), .val (.int (f0_v6 p1)), .val (.int (f1 (f0_v6 p1))), .val (.int (f0_s0_57 p1)), .val (.int (f0_s0_89 p1)), .val (.int (f0_s0_103 p1)), .val (.int (f0_s0_123 p1)), .val (.int (f2 (f0_v6 p1))), .val (.int ((f2 (f0_v6 p1)) &&& (255 : Int32))), .unset, .unset] [])) _
                refine XS.iconst X3.here hx rfl (hb hby at_201) ?_
                show Steps p.tables e below (T3.setTop (mkF m 202 #[.val (.int p1), .val (.int (f0_v6 p1)), .val (.int (f1 (f0_v6 p1))), .val (.int (f0_s0_57 p1)), .val (.int (f0_s0_89 p1)), .val (.int (f0_s0_103 p1)), .val (.int (f0_s0_123 p1)), .val (.int (f2 (f0_v6 p1))), .val (.int ((f2 (f0_v6 p1)) &&& (255 : Int32))), .unset, .unset] [(.int (4 : Int32))])) _
                refine XS.istore X3.here hx rfl (hb hby at_202) rfl (l' := #[.val (.int p1), .val (.int (f0_v6 p1)), .val (.int (f1 (f0_v6 p1))), .val (.int (f0_s0_57 p1)), .val (.int (f0_s0_89 p1)), .val (.int (f0_s0_103 p1)), .val (.int (f0_s0_123 p1)), .val (.int (f2 (f0_v6 p1))), .val (.int ((f2 (f0_v6 p1)) &&& (255 : Int32))), .val (.int (4 : Int32)), .unset]) rfl ?_
                show Steps p.tables e below (T3.setTop (mkF m 204 #[.val (.int p1), .val (.int (f0_v6 p1)), .val (.int (f1 (f0_v6 p1))), .val (.int (f0_s0_57 p1)), .val (.int (f0_s0_89 p1)), .val (.int (f0_s0_103 p1)), .val (.int (f0_s0_123 p1)), .val (.int (f2 (f0_v6 p1))), .val (.int ((f2 (f0_v6 p1)) &&& (255 : Int32))), .val (.int (4 : Int32)), .unset] [])) _
                refine XS.goto X3.here hx rfl (pc0 := 204) (pc' := 210) rfl (hb hby at_204) (by decide) (by decide) ?_
                exact k
              · have eq40 := (show (f0_l9_210 p1) = (0 : Int32) from by unfold f0_l9_210; simp only [if_neg hc144, if_neg hc162, if_neg hc180, if_neg hc198])
                try rw [eq40] at k
                refine pre38 t ?_
                show Steps p.tables e below (T3.setTop (mkF m 198 #[.val (.int p1), .val (.int (f0_v6 p1)), .val (.int (f1 (f0_v6 p1))), .val (.int (f0_s0_57 p1)), .val (.int (f0_s0_89 p1)), .val (.int (f0_s0_103 p1)), .val (.int (f0_s0_123 p1)), .val (.int (f2 (f0_v6 p1))), .val (.int ((f2 (f0_v6 p1)) &&& (255 : Int32))), .unset, .unset] [(.int (240 : Int32)), (.int (((f2 (f0_v6 p1)) &&& (255 : Int32)) &&& (248 : Int32)))])) _
                refine XS.icmpYes X3.here hx rfl (pc0 := 198) (pc' := 207) rfl (hb hby at_198) rfl (feq hc198).2 (by decide) (by decide) ?_
                show Steps p.tables e below (T3.setTop (mkF m 207 #[.val (.int p1), .val (.int (f0_v6 p1)), .val (.int (f1 (f0_v6 p1))), .val (.int (f0_s0_57 p1)), .val (.int (f0_s0_89 p1)), .val (.int (f0_s0_103 p1)), .val (.int (f0_s0_123 p1)), .val (.int (f2 (f0_v6 p1))), .val (.int ((f2 (f0_v6 p1)) &&& (255 : Int32))), .unset, .unset] [])) _
                refine XS.iconst X3.here hx rfl (hb hby at_207) ?_
                show Steps p.tables e below (T3.setTop (mkF m 208 #[.val (.int p1), .val (.int (f0_v6 p1)), .val (.int (f1 (f0_v6 p1))), .val (.int (f0_s0_57 p1)), .val (.int (f0_s0_89 p1)), .val (.int (f0_s0_103 p1)), .val (.int (f0_s0_123 p1)), .val (.int (f2 (f0_v6 p1))), .val (.int ((f2 (f0_v6 p1)) &&& (255 : Int32))), .unset, .unset] [(.int (0 : Int32))])) _
                refine XS.istore X3.here hx rfl (hb hby at_208) rfl (l' := #[.val (.int p1), .val (.int (f0_v6 p1)), .val (.int (f1 (f0_v6 p1))), .val (.int (f0_s0_57 p1)), .val (.int (f0_s0_89 p1)), .val (.int (f0_s0_103 p1)), .val (.int (f0_s0_123 p1)), .val (.int (f2 (f0_v6 p1))), .val (.int ((f2 (f0_v6 p1)) &&& (255 : Int32))), .val (.int (0 : Int32)), .unset]) rfl ?_
                exact k
      have pre41 : ∀ t, Steps p.tables e below (T3.setTop (mkF m 212 #[.val (.int p1), .val (.int (f0_v6 p1)), .val (.int (f1 (f0_v6 p1))), .val (.int (f0_s0_57 p1)), .val (.int (f0_s0_89 p1)), .val (.int (f0_s0_103 p1)), .val (.int (f0_s0_123 p1)), .val (.int (f2 (f0_v6 p1))), .val (.int ((f2 (f0_v6 p1)) &&& (255 : Int32))), .val (.int (f0_l9_210 p1)), .unset] [(.int (4 : Int32)), (.int (f1 (f0_v6 p1)))])) t → Steps p.tables e below (s₁.setTop (entryFrame m #[(.int p1)] maxLocals)) t := by
        intro t k
        refine pre32 t ?_
        show Steps p.tables e below (T3.setTop (mkF m 210 #[.val (.int p1), .val (.int (f0_v6 p1)), .val (.int (f1 (f0_v6 p1))), .val (.int (f0_s0_57 p1)), .val (.int (f0_s0_89 p1)), .val (.int (f0_s0_103 p1)), .val (.int (f0_s0_123 p1)), .val (.int (f2 (f0_v6 p1))), .val (.int ((f2 (f0_v6 p1)) &&& (255 : Int32))), .val (.int (f0_l9_210 p1)), .unset] [])) _
        refine XS.iloadN X3.here hx rfl (hb hby at_210) rfl ?_
        show Steps p.tables e below (T3.setTop (mkF m 211 #[.val (.int p1), .val (.int (f0_v6 p1)), .val (.int (f1 (f0_v6 p1))), .val (.int (f0_s0_57 p1)), .val (.int (f0_s0_89 p1)), .val (.int (f0_s0_103 p1)), .val (.int (f0_s0_123 p1)), .val (.int (f2 (f0_v6 p1))), .val (.int ((f2 (f0_v6 p1)) &&& (255 : Int32))), .val (.int (f0_l9_210 p1)), .unset] [(.int (f1 (f0_v6 p1)))])) _
        refine XS.iconst X3.here hx rfl (hb hby at_211) ?_
        exact k
      have pre42 : ∀ t, Steps p.tables e below (T3.setTop (mkF m 230 #[.val (.int p1), .val (.int (f0_v6 p1)), .val (.int (f1 (f0_v6 p1))), .val (.int (f0_s0_57 p1)), .val (.int (f0_s0_89 p1)), .val (.int (f0_s0_103 p1)), .val (.int (f0_s0_123 p1)), .val (.int (f2 (f0_v6 p1))), .val (.int ((f2 (f0_v6 p1)) &&& (255 : Int32))), .val (.int (f0_l9_210 p1)), .unset] [(.int (f0_s0_230 p1))])) t → Steps p.tables e below (s₁.setTop (entryFrame m #[(.int p1)] maxLocals)) t := by
        intro t k
        by_cases hc212 : (f1 (f0_v6 p1)) = (4 : Int32)
        · have eq43 := (show (f0_s0_230 p1) = (1 : Int32) from by unfold f0_s0_230; simp only [if_pos hc212])
          try rw [eq43] at k
          refine pre41 t ?_
          show Steps p.tables e below (T3.setTop (mkF m 212 #[.val (.int p1), .val (.int (f0_v6 p1)), .val (.int (f1 (f0_v6 p1))), .val (.int (f0_s0_57 p1)), .val (.int (f0_s0_89 p1)), .val (.int (f0_s0_103 p1)), .val (.int (f0_s0_123 p1)), .val (.int (f2 (f0_v6 p1))), .val (.int ((f2 (f0_v6 p1)) &&& (255 : Int32))), .val (.int (f0_l9_210 p1)), .unset] [(.int (4 : Int32)), (.int (f1 (f0_v6 p1)))])) _
          refine XS.icmpYes X3.here hx rfl (pc0 := 212) (pc' := 225) rfl (hb hby at_212) rfl (teq hc212).1 (by decide) (by decide) ?_
          show Steps p.tables e below (T3.setTop (mkF m 225 #[.val (.int p1), .val (.int (f0_v6 p1)), .val (.int (f1 (f0_v6 p1))), .val (.int (f0_s0_57 p1)), .val (.int (f0_s0_89 p1)), .val (.int (f0_s0_103 p1)), .val (.int (f0_s0_123 p1)), .val (.int (f2 (f0_v6 p1))), .val (.int ((f2 (f0_v6 p1)) &&& (255 : Int32))), .val (.int (f0_l9_210 p1)), .unset] [])) _
          refine XS.iconst X3.here hx rfl (hb hby at_225) ?_
          show Steps p.tables e below (T3.setTop (mkF m 226 #[.val (.int p1), .val (.int (f0_v6 p1)), .val (.int (f1 (f0_v6 p1))), .val (.int (f0_s0_57 p1)), .val (.int (f0_s0_89 p1)), .val (.int (f0_s0_103 p1)), .val (.int (f0_s0_123 p1)), .val (.int (f2 (f0_v6 p1))), .val (.int ((f2 (f0_v6 p1)) &&& (255 : Int32))), .val (.int (f0_l9_210 p1)), .unset] [(.int (1 : Int32))])) _
          refine XS.goto X3.here hx rfl (pc0 := 226) (pc' := 230) rfl (hb hby at_226) (by decide) (by decide) ?_
          exact k
        · have pre44 : ∀ t, Steps p.tables e below (T3.setTop (mkF m 222 #[.val (.int p1), .val (.int (f0_v6 p1)), .val (.int (f1 (f0_v6 p1))), .val (.int (f0_s0_57 p1)), .val (.int (f0_s0_89 p1)), .val (.int (f0_s0_103 p1)), .val (.int (f0_s0_123 p1)), .val (.int (f2 (f0_v6 p1))), .val (.int ((f2 (f0_v6 p1)) &&& (255 : Int32))), .val (.int (f0_l9_210 p1)), .unset] [(.int (((f2 (f0_v6 p1)).toUInt32 >>> (((8 : Int32) * (f1 (f0_v6 p1))) &&& 31).toUInt32).toInt32))])) t → Steps p.tables e below (s₁.setTop (entryFrame m #[(.int p1)] maxLocals)) t := by
            intro t k
            refine pre41 t ?_
            show Steps p.tables e below (T3.setTop (mkF m 212 #[.val (.int p1), .val (.int (f0_v6 p1)), .val (.int (f1 (f0_v6 p1))), .val (.int (f0_s0_57 p1)), .val (.int (f0_s0_89 p1)), .val (.int (f0_s0_103 p1)), .val (.int (f0_s0_123 p1)), .val (.int (f2 (f0_v6 p1))), .val (.int ((f2 (f0_v6 p1)) &&& (255 : Int32))), .val (.int (f0_l9_210 p1)), .unset] [(.int (4 : Int32)), (.int (f1 (f0_v6 p1)))])) _
            refine XS.icmpNo X3.here hx rfl (hb hby at_212) rfl (feq hc212).1 ?_
            show Steps p.tables e below (T3.setTop (mkF m 215 #[.val (.int p1), .val (.int (f0_v6 p1)), .val (.int (f1 (f0_v6 p1))), .val (.int (f0_s0_57 p1)), .val (.int (f0_s0_89 p1)), .val (.int (f0_s0_103 p1)), .val (.int (f0_s0_123 p1)), .val (.int (f2 (f0_v6 p1))), .val (.int ((f2 (f0_v6 p1)) &&& (255 : Int32))), .val (.int (f0_l9_210 p1)), .unset] [])) _
            refine XS.iload X3.here hx rfl (hb hby at_215) rfl ?_
            show Steps p.tables e below (T3.setTop (mkF m 217 #[.val (.int p1), .val (.int (f0_v6 p1)), .val (.int (f1 (f0_v6 p1))), .val (.int (f0_s0_57 p1)), .val (.int (f0_s0_89 p1)), .val (.int (f0_s0_103 p1)), .val (.int (f0_s0_123 p1)), .val (.int (f2 (f0_v6 p1))), .val (.int ((f2 (f0_v6 p1)) &&& (255 : Int32))), .val (.int (f0_l9_210 p1)), .unset] [(.int (f2 (f0_v6 p1)))])) _
            refine XS.bipush X3.here hx rfl (hb hby at_217) ?_
            show Steps p.tables e below (T3.setTop (mkF m 219 #[.val (.int p1), .val (.int (f0_v6 p1)), .val (.int (f1 (f0_v6 p1))), .val (.int (f0_s0_57 p1)), .val (.int (f0_s0_89 p1)), .val (.int (f0_s0_103 p1)), .val (.int (f0_s0_123 p1)), .val (.int (f2 (f0_v6 p1))), .val (.int ((f2 (f0_v6 p1)) &&& (255 : Int32))), .val (.int (f0_l9_210 p1)), .unset] [(.int (8 : Int32)), (.int (f2 (f0_v6 p1)))])) _
            refine XS.iloadN X3.here hx rfl (hb hby at_219) rfl ?_
            show Steps p.tables e below (T3.setTop (mkF m 220 #[.val (.int p1), .val (.int (f0_v6 p1)), .val (.int (f1 (f0_v6 p1))), .val (.int (f0_s0_57 p1)), .val (.int (f0_s0_89 p1)), .val (.int (f0_s0_103 p1)), .val (.int (f0_s0_123 p1)), .val (.int (f2 (f0_v6 p1))), .val (.int ((f2 (f0_v6 p1)) &&& (255 : Int32))), .val (.int (f0_l9_210 p1)), .unset] [(.int (f1 (f0_v6 p1))), (.int (8 : Int32)), (.int (f2 (f0_v6 p1)))])) _
            refine XS.imul X3.here hx rfl (hb hby at_220) rfl ?_
            show Steps p.tables e below (T3.setTop (mkF m 221 #[.val (.int p1), .val (.int (f0_v6 p1)), .val (.int (f1 (f0_v6 p1))), .val (.int (f0_s0_57 p1)), .val (.int (f0_s0_89 p1)), .val (.int (f0_s0_103 p1)), .val (.int (f0_s0_123 p1)), .val (.int (f2 (f0_v6 p1))), .val (.int ((f2 (f0_v6 p1)) &&& (255 : Int32))), .val (.int (f0_l9_210 p1)), .unset] [(.int ((8 : Int32) * (f1 (f0_v6 p1)))), (.int (f2 (f0_v6 p1)))])) _
            refine XS.iushr X3.here hx rfl (hb hby at_221) rfl ?_
            exact k
          by_cases hc222 : (((f2 (f0_v6 p1)).toUInt32 >>> (((8 : Int32) * (f1 (f0_v6 p1))) &&& 31).toUInt32).toInt32) = (0 : Int32)
          · have eq45 := (show (f0_s0_230 p1) = (1 : Int32) from by unfold f0_s0_230; simp only [if_neg hc212, if_pos hc222])
            try rw [eq45] at k
            refine pre44 t ?_
            show Steps p.tables e below (T3.setTop (mkF m 222 #[.val (.int p1), .val (.int (f0_v6 p1)), .val (.int (f1 (f0_v6 p1))), .val (.int (f0_s0_57 p1)), .val (.int (f0_s0_89 p1)), .val (.int (f0_s0_103 p1)), .val (.int (f0_s0_123 p1)), .val (.int (f2 (f0_v6 p1))), .val (.int ((f2 (f0_v6 p1)) &&& (255 : Int32))), .val (.int (f0_l9_210 p1)), .unset] [(.int (((f2 (f0_v6 p1)).toUInt32 >>> (((8 : Int32) * (f1 (f0_v6 p1))) &&& 31).toUInt32).toInt32))])) _
            refine XS.ifNo X3.here hx rfl (hb hby at_222) rfl ((if0 _ _).trans (teq hc222).2) ?_
            show Steps p.tables e below (T3.setTop (mkF m 225 #[.val (.int p1), .val (.int (f0_v6 p1)), .val (.int (f1 (f0_v6 p1))), .val (.int (f0_s0_57 p1)), .val (.int (f0_s0_89 p1)), .val (.int (f0_s0_103 p1)), .val (.int (f0_s0_123 p1)), .val (.int (f2 (f0_v6 p1))), .val (.int ((f2 (f0_v6 p1)) &&& (255 : Int32))), .val (.int (f0_l9_210 p1)), .unset] [])) _
            refine XS.iconst X3.here hx rfl (hb hby at_225) ?_
            show Steps p.tables e below (T3.setTop (mkF m 226 #[.val (.int p1), .val (.int (f0_v6 p1)), .val (.int (f1 (f0_v6 p1))), .val (.int (f0_s0_57 p1)), .val (.int (f0_s0_89 p1)), .val (.int (f0_s0_103 p1)), .val (.int (f0_s0_123 p1)), .val (.int (f2 (f0_v6 p1))), .val (.int ((f2 (f0_v6 p1)) &&& (255 : Int32))), .val (.int (f0_l9_210 p1)), .unset] [(.int (1 : Int32))])) _
            refine XS.goto X3.here hx rfl (pc0 := 226) (pc' := 230) rfl (hb hby at_226) (by decide) (by decide) ?_
            exact k
          · have eq46 := (show (f0_s0_230 p1) = (0 : Int32) from by unfold f0_s0_230; simp only [if_neg hc212, if_neg hc222])
            try rw [eq46] at k
            refine pre44 t ?_
            show Steps p.tables e below (T3.setTop (mkF m 222 #[.val (.int p1), .val (.int (f0_v6 p1)), .val (.int (f1 (f0_v6 p1))), .val (.int (f0_s0_57 p1)), .val (.int (f0_s0_89 p1)), .val (.int (f0_s0_103 p1)), .val (.int (f0_s0_123 p1)), .val (.int (f2 (f0_v6 p1))), .val (.int ((f2 (f0_v6 p1)) &&& (255 : Int32))), .val (.int (f0_l9_210 p1)), .unset] [(.int (((f2 (f0_v6 p1)).toUInt32 >>> (((8 : Int32) * (f1 (f0_v6 p1))) &&& 31).toUInt32).toInt32))])) _
            refine XS.ifYes X3.here hx rfl (pc0 := 222) (pc' := 229) rfl (hb hby at_222) rfl ((if0 _ _).trans (feq hc222).2) (by decide) (by decide) ?_
            show Steps p.tables e below (T3.setTop (mkF m 229 #[.val (.int p1), .val (.int (f0_v6 p1)), .val (.int (f1 (f0_v6 p1))), .val (.int (f0_s0_57 p1)), .val (.int (f0_s0_89 p1)), .val (.int (f0_s0_103 p1)), .val (.int (f0_s0_123 p1)), .val (.int (f2 (f0_v6 p1))), .val (.int ((f2 (f0_v6 p1)) &&& (255 : Int32))), .val (.int (f0_l9_210 p1)), .unset] [])) _
            refine XS.iconst X3.here hx rfl (hb hby at_229) ?_
            exact k
      have pre47 : ∀ t, Steps p.tables e below (T3.setTop (mkF m 234 #[.val (.int p1), .val (.int (f0_v6 p1)), .val (.int (f1 (f0_v6 p1))), .val (.int (f0_s0_57 p1)), .val (.int (f0_s0_89 p1)), .val (.int (f0_s0_103 p1)), .val (.int (f0_s0_123 p1)), .val (.int (f2 (f0_v6 p1))), .val (.int ((f2 (f0_v6 p1)) &&& (255 : Int32))), .val (.int (f0_l9_210 p1)), .val (.int (f0_s0_230 p1))] [(.int (f0_s0_103 p1))])) t → Steps p.tables e below (s₁.setTop (entryFrame m #[(.int p1)] maxLocals)) t := by
        intro t k
        refine pre42 t ?_
        show Steps p.tables e below (T3.setTop (mkF m 230 #[.val (.int p1), .val (.int (f0_v6 p1)), .val (.int (f1 (f0_v6 p1))), .val (.int (f0_s0_57 p1)), .val (.int (f0_s0_89 p1)), .val (.int (f0_s0_103 p1)), .val (.int (f0_s0_123 p1)), .val (.int (f2 (f0_v6 p1))), .val (.int ((f2 (f0_v6 p1)) &&& (255 : Int32))), .val (.int (f0_l9_210 p1)), .unset] [(.int (f0_s0_230 p1))])) _
        refine XS.istore X3.here hx rfl (hb hby at_230) rfl (l' := #[.val (.int p1), .val (.int (f0_v6 p1)), .val (.int (f1 (f0_v6 p1))), .val (.int (f0_s0_57 p1)), .val (.int (f0_s0_89 p1)), .val (.int (f0_s0_103 p1)), .val (.int (f0_s0_123 p1)), .val (.int (f2 (f0_v6 p1))), .val (.int ((f2 (f0_v6 p1)) &&& (255 : Int32))), .val (.int (f0_l9_210 p1)), .val (.int (f0_s0_230 p1))]) rfl ?_
        show Steps p.tables e below (T3.setTop (mkF m 232 #[.val (.int p1), .val (.int (f0_v6 p1)), .val (.int (f1 (f0_v6 p1))), .val (.int (f0_s0_57 p1)), .val (.int (f0_s0_89 p1)), .val (.int (f0_s0_103 p1)), .val (.int (f0_s0_123 p1)), .val (.int (f2 (f0_v6 p1))), .val (.int ((f2 (f0_v6 p1)) &&& (255 : Int32))), .val (.int (f0_l9_210 p1)), .val (.int (f0_s0_230 p1))] [])) _
        refine XS.iload X3.here hx rfl (hb hby at_232) rfl ?_
        exact k
      by_cases hc234 : (f0_s0_103 p1) = (0 : Int32)
      · have eq48 : (f0 p1) = (0 : Int32) := by unfold f0; simp only [if_neg hc15, if_neg hc20, if_pos hc234]
        obtain ⟨fs, hr, hrun, hended, hW, hsame⟩ := X3.leave (v := some (.int (0 : Int32))) (fun h => by rw [Bd.returns] at h; cases h)
        refine ⟨_, _, pre47 _ ?_, hrun, hended, _, _, rfl, ?_, ⟨_, rfl⟩, hW, hsame.mono (by decide) (by decide)⟩
        · show Steps p.tables e below (T3.setTop (mkF m 234 #[.val (.int p1), .val (.int (f0_v6 p1)), .val (.int (f1 (f0_v6 p1))), .val (.int (f0_s0_57 p1)), .val (.int (f0_s0_89 p1)), .val (.int (f0_s0_103 p1)), .val (.int (f0_s0_123 p1)), .val (.int (f2 (f0_v6 p1))), .val (.int ((f2 (f0_v6 p1)) &&& (255 : Int32))), .val (.int (f0_l9_210 p1)), .val (.int (f0_s0_230 p1))] [(.int (f0_s0_103 p1))])) _
          refine XS.ifYes X3.here hx rfl (pc0 := 234) (pc' := 257) rfl (hb hby at_234) rfl ((if0 _ _).trans (teq hc234).1) (by decide) (by decide) ?_
          show Steps p.tables e below (T3.setTop (mkF m 257 #[.val (.int p1), .val (.int (f0_v6 p1)), .val (.int (f1 (f0_v6 p1))), .val (.int (f0_s0_57 p1)), .val (.int (f0_s0_89 p1)), .val (.int (f0_s0_103 p1)), .val (.int (f0_s0_123 p1)), .val (.int (f2 (f0_v6 p1))), .val (.int ((f2 (f0_v6 p1)) &&& (255 : Int32))), .val (.int (f0_l9_210 p1)), .val (.int (f0_s0_230 p1))] [])) _
          refine XS.iconst X3.here hx rfl (hb hby at_257) ?_
          show Steps p.tables e below (T3.setTop (mkF m 258 #[.val (.int p1), .val (.int (f0_v6 p1)), .val (.int (f1 (f0_v6 p1))), .val (.int (f0_s0_57 p1)), .val (.int (f0_s0_89 p1)), .val (.int (f0_s0_103 p1)), .val (.int (f0_s0_123 p1)), .val (.int (f2 (f0_v6 p1))), .val (.int ((f2 (f0_v6 p1)) &&& (255 : Int32))), .val (.int (f0_l9_210 p1)), .val (.int (f0_s0_230 p1))] [(.int (0 : Int32))])) _
          exact retN X3 hx (t := .boolean) Bd.returns (by simp) (hb hby at_258) hr
        · show Q0 Z p1 h0 n0 _ T3.heap _
          rw [e3]
          exact ⟨by rw [eq48], N3, trivial⟩
      · have pre49 : ∀ t, Steps p.tables e below (T3.setTop (mkF m 239 #[.val (.int p1), .val (.int (f0_v6 p1)), .val (.int (f1 (f0_v6 p1))), .val (.int (f0_s0_57 p1)), .val (.int (f0_s0_89 p1)), .val (.int (f0_s0_103 p1)), .val (.int (f0_s0_123 p1)), .val (.int (f2 (f0_v6 p1))), .val (.int ((f2 (f0_v6 p1)) &&& (255 : Int32))), .val (.int (f0_l9_210 p1)), .val (.int (f0_s0_230 p1))] [(.int (f0_s0_123 p1))])) t → Steps p.tables e below (s₁.setTop (entryFrame m #[(.int p1)] maxLocals)) t := by
          intro t k
          refine pre47 t ?_
          show Steps p.tables e below (T3.setTop (mkF m 234 #[.val (.int p1), .val (.int (f0_v6 p1)), .val (.int (f1 (f0_v6 p1))), .val (.int (f0_s0_57 p1)), .val (.int (f0_s0_89 p1)), .val (.int (f0_s0_103 p1)), .val (.int (f0_s0_123 p1)), .val (.int (f2 (f0_v6 p1))), .val (.int ((f2 (f0_v6 p1)) &&& (255 : Int32))), .val (.int (f0_l9_210 p1)), .val (.int (f0_s0_230 p1))] [(.int (f0_s0_103 p1))])) _
          refine XS.ifNo X3.here hx rfl (hb hby at_234) rfl ((if0 _ _).trans (feq hc234).1) ?_
          show Steps p.tables e below (T3.setTop (mkF m 237 #[.val (.int p1), .val (.int (f0_v6 p1)), .val (.int (f1 (f0_v6 p1))), .val (.int (f0_s0_57 p1)), .val (.int (f0_s0_89 p1)), .val (.int (f0_s0_103 p1)), .val (.int (f0_s0_123 p1)), .val (.int (f2 (f0_v6 p1))), .val (.int ((f2 (f0_v6 p1)) &&& (255 : Int32))), .val (.int (f0_l9_210 p1)), .val (.int (f0_s0_230 p1))] [])) _
          refine XS.iload X3.here hx rfl (hb hby at_237) rfl ?_
          exact k
        by_cases hc239 : (f0_s0_123 p1) = (0 : Int32)
        · have eq50 : (f0 p1) = (0 : Int32) := by unfold f0; simp only [if_neg hc15, if_neg hc20, if_neg hc234, if_pos hc239]
          obtain ⟨fs, hr, hrun, hended, hW, hsame⟩ := X3.leave (v := some (.int (0 : Int32))) (fun h => by rw [Bd.returns] at h; cases h)
          refine ⟨_, _, pre49 _ ?_, hrun, hended, _, _, rfl, ?_, ⟨_, rfl⟩, hW, hsame.mono (by decide) (by decide)⟩
          · show Steps p.tables e below (T3.setTop (mkF m 239 #[.val (.int p1), .val (.int (f0_v6 p1)), .val (.int (f1 (f0_v6 p1))), .val (.int (f0_s0_57 p1)), .val (.int (f0_s0_89 p1)), .val (.int (f0_s0_103 p1)), .val (.int (f0_s0_123 p1)), .val (.int (f2 (f0_v6 p1))), .val (.int ((f2 (f0_v6 p1)) &&& (255 : Int32))), .val (.int (f0_l9_210 p1)), .val (.int (f0_s0_230 p1))] [(.int (f0_s0_123 p1))])) _
            refine XS.ifYes X3.here hx rfl (pc0 := 239) (pc' := 257) rfl (hb hby at_239) rfl ((if0 _ _).trans (teq hc239).1) (by decide) (by decide) ?_
            show Steps p.tables e below (T3.setTop (mkF m 257 #[.val (.int p1), .val (.int (f0_v6 p1)), .val (.int (f1 (f0_v6 p1))), .val (.int (f0_s0_57 p1)), .val (.int (f0_s0_89 p1)), .val (.int (f0_s0_103 p1)), .val (.int (f0_s0_123 p1)), .val (.int (f2 (f0_v6 p1))), .val (.int ((f2 (f0_v6 p1)) &&& (255 : Int32))), .val (.int (f0_l9_210 p1)), .val (.int (f0_s0_230 p1))] [])) _
            refine XS.iconst X3.here hx rfl (hb hby at_257) ?_
            show Steps p.tables e below (T3.setTop (mkF m 258 #[.val (.int p1), .val (.int (f0_v6 p1)), .val (.int (f1 (f0_v6 p1))), .val (.int (f0_s0_57 p1)), .val (.int (f0_s0_89 p1)), .val (.int (f0_s0_103 p1)), .val (.int (f0_s0_123 p1)), .val (.int (f2 (f0_v6 p1))), .val (.int ((f2 (f0_v6 p1)) &&& (255 : Int32))), .val (.int (f0_l9_210 p1)), .val (.int (f0_s0_230 p1))] [(.int (0 : Int32))])) _
            exact retN X3 hx (t := .boolean) Bd.returns (by simp) (hb hby at_258) hr
          · show Q0 Z p1 h0 n0 _ T3.heap _
            rw [e3]
            exact ⟨by rw [eq50], N3, trivial⟩
        · have pre51 : ∀ t, Steps p.tables e below (T3.setTop (mkF m 245 #[.val (.int p1), .val (.int (f0_v6 p1)), .val (.int (f1 (f0_v6 p1))), .val (.int (f0_s0_57 p1)), .val (.int (f0_s0_89 p1)), .val (.int (f0_s0_103 p1)), .val (.int (f0_s0_123 p1)), .val (.int (f2 (f0_v6 p1))), .val (.int ((f2 (f0_v6 p1)) &&& (255 : Int32))), .val (.int (f0_l9_210 p1)), .val (.int (f0_s0_230 p1))] [(.int (f1 (f0_v6 p1))), (.int (f0_l9_210 p1))])) t → Steps p.tables e below (s₁.setTop (entryFrame m #[(.int p1)] maxLocals)) t := by
            intro t k
            refine pre49 t ?_
            show Steps p.tables e below (T3.setTop (mkF m 239 #[.val (.int p1), .val (.int (f0_v6 p1)), .val (.int (f1 (f0_v6 p1))), .val (.int (f0_s0_57 p1)), .val (.int (f0_s0_89 p1)), .val (.int (f0_s0_103 p1)), .val (.int (f0_s0_123 p1)), .val (.int (f2 (f0_v6 p1))), .val (.int ((f2 (f0_v6 p1)) &&& (255 : Int32))), .val (.int (f0_l9_210 p1)), .val (.int (f0_s0_230 p1))] [(.int (f0_s0_123 p1))])) _
            refine XS.ifNo X3.here hx rfl (hb hby at_239) rfl ((if0 _ _).trans (feq hc239).1) ?_
            show Steps p.tables e below (T3.setTop (mkF m 242 #[.val (.int p1), .val (.int (f0_v6 p1)), .val (.int (f1 (f0_v6 p1))), .val (.int (f0_s0_57 p1)), .val (.int (f0_s0_89 p1)), .val (.int (f0_s0_103 p1)), .val (.int (f0_s0_123 p1)), .val (.int (f2 (f0_v6 p1))), .val (.int ((f2 (f0_v6 p1)) &&& (255 : Int32))), .val (.int (f0_l9_210 p1)), .val (.int (f0_s0_230 p1))] [])) _
            refine XS.iload X3.here hx rfl (hb hby at_242) rfl ?_
            show Steps p.tables e below (T3.setTop (mkF m 244 #[.val (.int p1), .val (.int (f0_v6 p1)), .val (.int (f1 (f0_v6 p1))), .val (.int (f0_s0_57 p1)), .val (.int (f0_s0_89 p1)), .val (.int (f0_s0_103 p1)), .val (.int (f0_s0_123 p1)), .val (.int (f2 (f0_v6 p1))), .val (.int ((f2 (f0_v6 p1)) &&& (255 : Int32))), .val (.int (f0_l9_210 p1)), .val (.int (f0_s0_230 p1))] [(.int (f0_l9_210 p1))])) _
            refine XS.iloadN X3.here hx rfl (hb hby at_244) rfl ?_
            exact k
          by_cases hc245 : (f0_l9_210 p1) = (f1 (f0_v6 p1))
          · have pre52 : ∀ t, Steps p.tables e below (T3.setTop (mkF m 250 #[.val (.int p1), .val (.int (f0_v6 p1)), .val (.int (f1 (f0_v6 p1))), .val (.int (f0_s0_57 p1)), .val (.int (f0_s0_89 p1)), .val (.int (f0_s0_103 p1)), .val (.int (f0_s0_123 p1)), .val (.int (f2 (f0_v6 p1))), .val (.int ((f2 (f0_v6 p1)) &&& (255 : Int32))), .val (.int (f0_l9_210 p1)), .val (.int (f0_s0_230 p1))] [(.int (f0_s0_230 p1))])) t → Steps p.tables e below (s₁.setTop (entryFrame m #[(.int p1)] maxLocals)) t := by
              intro t k
              refine pre51 t ?_
              show Steps p.tables e below (T3.setTop (mkF m 245 #[.val (.int p1), .val (.int (f0_v6 p1)), .val (.int (f1 (f0_v6 p1))), .val (.int (f0_s0_57 p1)), .val (.int (f0_s0_89 p1)), .val (.int (f0_s0_103 p1)), .val (.int (f0_s0_123 p1)), .val (.int (f2 (f0_v6 p1))), .val (.int ((f2 (f0_v6 p1)) &&& (255 : Int32))), .val (.int (f0_l9_210 p1)), .val (.int (f0_s0_230 p1))] [(.int (f1 (f0_v6 p1))), (.int (f0_l9_210 p1))])) _
              refine XS.icmpNo X3.here hx rfl (hb hby at_245) rfl (teq hc245).2 ?_
              show Steps p.tables e below (T3.setTop (mkF m 248 #[.val (.int p1), .val (.int (f0_v6 p1)), .val (.int (f1 (f0_v6 p1))), .val (.int (f0_s0_57 p1)), .val (.int (f0_s0_89 p1)), .val (.int (f0_s0_103 p1)), .val (.int (f0_s0_123 p1)), .val (.int (f2 (f0_v6 p1))), .val (.int ((f2 (f0_v6 p1)) &&& (255 : Int32))), .val (.int (f0_l9_210 p1)), .val (.int (f0_s0_230 p1))] [])) _
              refine XS.iload X3.here hx rfl (hb hby at_248) rfl ?_
              exact k
            by_cases hc250 : (f0_s0_230 p1) = (0 : Int32)
            · have eq53 : (f0 p1) = (0 : Int32) := by unfold f0; simp only [if_neg hc15, if_neg hc20, if_neg hc234, if_neg hc239, if_pos hc245, if_pos hc250]
              obtain ⟨fs, hr, hrun, hended, hW, hsame⟩ := X3.leave (v := some (.int (0 : Int32))) (fun h => by rw [Bd.returns] at h; cases h)
              refine ⟨_, _, pre52 _ ?_, hrun, hended, _, _, rfl, ?_, ⟨_, rfl⟩, hW, hsame.mono (by decide) (by decide)⟩
              · show Steps p.tables e below (T3.setTop (mkF m 250 #[.val (.int p1), .val (.int (f0_v6 p1)), .val (.int (f1 (f0_v6 p1))), .val (.int (f0_s0_57 p1)), .val (.int (f0_s0_89 p1)), .val (.int (f0_s0_103 p1)), .val (.int (f0_s0_123 p1)), .val (.int (f2 (f0_v6 p1))), .val (.int ((f2 (f0_v6 p1)) &&& (255 : Int32))), .val (.int (f0_l9_210 p1)), .val (.int (f0_s0_230 p1))] [(.int (f0_s0_230 p1))])) _
                refine XS.ifYes X3.here hx rfl (pc0 := 250) (pc' := 257) rfl (hb hby at_250) rfl ((if0 _ _).trans (teq hc250).1) (by decide) (by decide) ?_
                show Steps p.tables e below (T3.setTop (mkF m 257 #[.val (.int p1), .val (.int (f0_v6 p1)), .val (.int (f1 (f0_v6 p1))), .val (.int (f0_s0_57 p1)), .val (.int (f0_s0_89 p1)), .val (.int (f0_s0_103 p1)), .val (.int (f0_s0_123 p1)), .val (.int (f2 (f0_v6 p1))), .val (.int ((f2 (f0_v6 p1)) &&& (255 : Int32))), .val (.int (f0_l9_210 p1)), .val (.int (f0_s0_230 p1))] [])) _
                refine XS.iconst X3.here hx rfl (hb hby at_257) ?_
                show Steps p.tables e below (T3.setTop (mkF m 258 #[.val (.int p1), .val (.int (f0_v6 p1)), .val (.int (f1 (f0_v6 p1))), .val (.int (f0_s0_57 p1)), .val (.int (f0_s0_89 p1)), .val (.int (f0_s0_103 p1)), .val (.int (f0_s0_123 p1)), .val (.int (f2 (f0_v6 p1))), .val (.int ((f2 (f0_v6 p1)) &&& (255 : Int32))), .val (.int (f0_l9_210 p1)), .val (.int (f0_s0_230 p1))] [(.int (0 : Int32))])) _
                exact retN X3 hx (t := .boolean) Bd.returns (by simp) (hb hby at_258) hr
              · show Q0 Z p1 h0 n0 _ T3.heap _
                rw [e3]
                exact ⟨by rw [eq53], N3, trivial⟩
            · have eq54 : (f0 p1) = (1 : Int32) := by unfold f0; simp only [if_neg hc15, if_neg hc20, if_neg hc234, if_neg hc239, if_pos hc245, if_neg hc250]
              obtain ⟨fs, hr, hrun, hended, hW, hsame⟩ := X3.leave (v := some (.int (1 : Int32))) (fun h => by rw [Bd.returns] at h; cases h)
              refine ⟨_, _, pre52 _ ?_, hrun, hended, _, _, rfl, ?_, ⟨_, rfl⟩, hW, hsame.mono (by decide) (by decide)⟩
              · show Steps p.tables e below (T3.setTop (mkF m 250 #[.val (.int p1), .val (.int (f0_v6 p1)), .val (.int (f1 (f0_v6 p1))), .val (.int (f0_s0_57 p1)), .val (.int (f0_s0_89 p1)), .val (.int (f0_s0_103 p1)), .val (.int (f0_s0_123 p1)), .val (.int (f2 (f0_v6 p1))), .val (.int ((f2 (f0_v6 p1)) &&& (255 : Int32))), .val (.int (f0_l9_210 p1)), .val (.int (f0_s0_230 p1))] [(.int (f0_s0_230 p1))])) _
                refine XS.ifNo X3.here hx rfl (hb hby at_250) rfl ((if0 _ _).trans (feq hc250).1) ?_
                show Steps p.tables e below (T3.setTop (mkF m 253 #[.val (.int p1), .val (.int (f0_v6 p1)), .val (.int (f1 (f0_v6 p1))), .val (.int (f0_s0_57 p1)), .val (.int (f0_s0_89 p1)), .val (.int (f0_s0_103 p1)), .val (.int (f0_s0_123 p1)), .val (.int (f2 (f0_v6 p1))), .val (.int ((f2 (f0_v6 p1)) &&& (255 : Int32))), .val (.int (f0_l9_210 p1)), .val (.int (f0_s0_230 p1))] [])) _
                refine XS.iconst X3.here hx rfl (hb hby at_253) ?_
                show Steps p.tables e below (T3.setTop (mkF m 254 #[.val (.int p1), .val (.int (f0_v6 p1)), .val (.int (f1 (f0_v6 p1))), .val (.int (f0_s0_57 p1)), .val (.int (f0_s0_89 p1)), .val (.int (f0_s0_103 p1)), .val (.int (f0_s0_123 p1)), .val (.int (f2 (f0_v6 p1))), .val (.int ((f2 (f0_v6 p1)) &&& (255 : Int32))), .val (.int (f0_l9_210 p1)), .val (.int (f0_s0_230 p1))] [(.int (1 : Int32))])) _
                refine XS.goto X3.here hx rfl (pc0 := 254) (pc' := 258) rfl (hb hby at_254) (by decide) (by decide) ?_
                show Steps p.tables e below (T3.setTop (mkF m 258 #[.val (.int p1), .val (.int (f0_v6 p1)), .val (.int (f1 (f0_v6 p1))), .val (.int (f0_s0_57 p1)), .val (.int (f0_s0_89 p1)), .val (.int (f0_s0_103 p1)), .val (.int (f0_s0_123 p1)), .val (.int (f2 (f0_v6 p1))), .val (.int ((f2 (f0_v6 p1)) &&& (255 : Int32))), .val (.int (f0_l9_210 p1)), .val (.int (f0_s0_230 p1))] [(.int (1 : Int32))])) _
                exact retN X3 hx (t := .boolean) Bd.returns (by simp) (hb hby at_258) hr
              · show Q0 Z p1 h0 n0 _ T3.heap _
                rw [e3]
                exact ⟨by rw [eq54], N3, trivial⟩
          · have eq55 : (f0 p1) = (0 : Int32) := by unfold f0; simp only [if_neg hc15, if_neg hc20, if_neg hc234, if_neg hc239, if_neg hc245]
            obtain ⟨fs, hr, hrun, hended, hW, hsame⟩ := X3.leave (v := some (.int (0 : Int32))) (fun h => by rw [Bd.returns] at h; cases h)
            refine ⟨_, _, pre51 _ ?_, hrun, hended, _, _, rfl, ?_, ⟨_, rfl⟩, hW, hsame.mono (by decide) (by decide)⟩
            · show Steps p.tables e below (T3.setTop (mkF m 245 #[.val (.int p1), .val (.int (f0_v6 p1)), .val (.int (f1 (f0_v6 p1))), .val (.int (f0_s0_57 p1)), .val (.int (f0_s0_89 p1)), .val (.int (f0_s0_103 p1)), .val (.int (f0_s0_123 p1)), .val (.int (f2 (f0_v6 p1))), .val (.int ((f2 (f0_v6 p1)) &&& (255 : Int32))), .val (.int (f0_l9_210 p1)), .val (.int (f0_s0_230 p1))] [(.int (f1 (f0_v6 p1))), (.int (f0_l9_210 p1))])) _
              refine XS.icmpYes X3.here hx rfl (pc0 := 245) (pc' := 257) rfl (hb hby at_245) rfl (feq hc245).2 (by decide) (by decide) ?_
              show Steps p.tables e below (T3.setTop (mkF m 257 #[.val (.int p1), .val (.int (f0_v6 p1)), .val (.int (f1 (f0_v6 p1))), .val (.int (f0_s0_57 p1)), .val (.int (f0_s0_89 p1)), .val (.int (f0_s0_103 p1)), .val (.int (f0_s0_123 p1)), .val (.int (f2 (f0_v6 p1))), .val (.int ((f2 (f0_v6 p1)) &&& (255 : Int32))), .val (.int (f0_l9_210 p1)), .val (.int (f0_s0_230 p1))] [])) _
              refine XS.iconst X3.here hx rfl (hb hby at_257) ?_
              show Steps p.tables e below (T3.setTop (mkF m 258 #[.val (.int p1), .val (.int (f0_v6 p1)), .val (.int (f1 (f0_v6 p1))), .val (.int (f0_s0_57 p1)), .val (.int (f0_s0_89 p1)), .val (.int (f0_s0_103 p1)), .val (.int (f0_s0_123 p1)), .val (.int (f2 (f0_v6 p1))), .val (.int ((f2 (f0_v6 p1)) &&& (255 : Int32))), .val (.int (f0_l9_210 p1)), .val (.int (f0_s0_230 p1))] [(.int (0 : Int32))])) _
              exact retN X3 hx (t := .boolean) Bd.returns (by simp) (hb hby at_258) hr
            · show Q0 Z p1 h0 n0 _ T3.heap _
              rw [e3]
              exact ⟨by rw [eq55], N3, trivial⟩
theorem own_rem (x y : Int32) : x - (x / y) * y = x % y := by
  apply Int32.toInt_inj.mp
  have h1 := Int32.le_toInt (x % y)
  have h2 := Int32.toInt_lt (x % y)
  rw [Int32.toInt_sub, Int32.toInt_mul, Int32.toInt_div, Int.bmod_mul_bmod, Int.sub_bmod_bmod, Int.mul_comm (x.toInt.tdiv y.toInt), ← Int.tmod_def, ← Int32.toInt_mod]
  exact Int.bmod_eq_of_le_mul_two (by omega) (by omega)
theorem own_nat (x : Int32) : (x.toBitVec.toNat : Int) = x.toInt % 4294967296 := by
  have h := x.toBitVec.isLt
  show _ = x.toBitVec.toInt % 4294967296
  rw [BitVec.toInt_eq_toNat_cond]; split <;> omega
theorem own_mask (x m : Int32) (k : Nat) (hm : m.toBitVec.toNat = 2 ^ k - 1) : (x &&& m).toBitVec.toNat = x.toBitVec.toNat % 2 ^ k := by
  show (x.toBitVec &&& m.toBitVec).toNat = _
  rw [BitVec.toNat_and, hm, Nat.and_two_pow_sub_one_eq_mod]
theorem own_inj {x y : Int32} (h : x.toBitVec.toNat = y.toBitVec.toNat) : x = y := Int32.toBitVec_inj.mp (BitVec.eq_of_toNat_eq h)
theorem own_shl (x q : Int32) (k : Nat) (hk : q.toBitVec.toNat % 32 = k) : (x <<< (q &&& 31)).toBitVec.toNat = x.toBitVec.toNat * 2 ^ k % 2 ^ 32 := by
  show (x.toBitVec <<< ((q &&& 31).toBitVec.smod 32)).toNat = _
  rw [BitVec.shiftLeft_eq', sm32 q k hk, BitVec.toNat_shiftLeft, Nat.shiftLeft_eq]
theorem own_shr (x q : Int32) (k : Nat) (hk : q.toBitVec.toNat % 32 = k) : ((x.toUInt32 >>> (q &&& 31).toUInt32).toInt32).toBitVec.toNat = x.toBitVec.toNat / 2 ^ k := by
  have h1 : ((q &&& 31).toBitVec % 32).toNat = k := by
    show ((q.toBitVec &&& (31 : Int32).toBitVec) % 32).toNat = k
    rw [BitVec.toNat_umod, BitVec.toNat_and, show (31 : Int32).toBitVec.toNat = 2 ^ 5 - 1 from rfl, Nat.and_two_pow_sub_one_eq_mod]
    show q.toBitVec.toNat % 2 ^ 5 % 32 = k
    omega
  show (x.toBitVec >>> ((q &&& 31).toBitVec % 32)).toNat = _
  rw [BitVec.ushiftRight_eq', h1, BitVec.toNat_ushiftRight, Nat.shiftRight_eq_div_pow]
theorem own_or (x y : Int32) (k : Nat) (hx : x.toBitVec.toNat % 2 ^ k = 0) (hy : y.toBitVec.toNat < 2 ^ k) : (x ||| y).toBitVec.toNat = x.toBitVec.toNat + y.toBitVec.toNat := by
  show (x.toBitVec ||| y.toBitVec).toNat = _
  rw [BitVec.toNat_or]
  have e : x.toBitVec.toNat = 2 ^ k * (x.toBitVec.toNat / 2 ^ k) := by
    have h := Nat.div_add_mod x.toBitVec.toNat (2 ^ k); omega
  rw [e]; exact (Nat.two_pow_add_eq_or_of_lt hy _).symm
theorem own_orS (x y : Int32) (k : Nat) (hx : x.toBitVec.toNat < 2 ^ k) (hy : y.toBitVec.toNat % 2 ^ k = 0) : (x ||| y).toBitVec.toNat = x.toBitVec.toNat + y.toBitVec.toNat := by
  rw [Int32.or_comm, own_or y x k hy hx]; omega
theorem own_and (x y : Int32) : (x &&& y).toBitVec.toNat = x.toBitVec.toNat &&& y.toBitVec.toNat := by
  show (x.toBitVec &&& y.toBitVec).toNat = _
  rw [BitVec.toNat_and]
theorem own_pos (x : Int32) (h : 0 ≤ x.toInt) : x.toInt = x.toBitVec.toNat := by
  have h1 := own_nat x; have h2 := rng32 x; omega
theorem own_cond (x : Int32) (v : Int32) (n : Nat) (h : v.toBitVec.toNat = n) (c : x.toBitVec.toNat = n) : x = v := own_inj (by rw [c, h])
theorem own_a224 : ∀ l : Fin 256, (l.val &&& 224 = 192) ↔ (192 ≤ l.val ∧ l.val < 224) := by decide +kernel
theorem own_a240 : ∀ l : Fin 256, (l.val &&& 240 = 224) ↔ (224 ≤ l.val ∧ l.val < 240) := by decide +kernel
theorem own_a248 : ∀ l : Fin 256, (l.val &&& 248 = 240) ↔ (240 ≤ l.val ∧ l.val < 248) := by decide +kernel
theorem own_a192 : ∀ l : Fin 256, (l.val &&& 192 = 128) ↔ (128 ≤ l.val ∧ l.val < 192) := by decide +kernel
theorem own_m224 (x : Int32) (h : x.toBitVec.toNat < 256) : (x &&& 224) = 192 ↔ (192 ≤ x.toBitVec.toNat ∧ x.toBitVec.toNat < 224) := by
  rw [← own_a224 ⟨_, h⟩]
  exact ⟨fun q => by have z := congrArg (fun y : Int32 => y.toBitVec.toNat) q; rw [show ((x &&& 224 : Int32).toBitVec.toNat) = _ from own_and x 224] at z; exact z, fun q => own_inj (by rw [own_and]; exact q)⟩
theorem own_m240 (x : Int32) (h : x.toBitVec.toNat < 256) : (x &&& 240) = 224 ↔ (224 ≤ x.toBitVec.toNat ∧ x.toBitVec.toNat < 240) := by
  rw [← own_a240 ⟨_, h⟩]
  exact ⟨fun q => by have z := congrArg (fun y : Int32 => y.toBitVec.toNat) q; rw [show ((x &&& 240 : Int32).toBitVec.toNat) = _ from own_and x 240] at z; exact z, fun q => own_inj (by rw [own_and]; exact q)⟩
theorem own_m248 (x : Int32) (h : x.toBitVec.toNat < 256) : (x &&& 248) = 240 ↔ (240 ≤ x.toBitVec.toNat ∧ x.toBitVec.toNat < 248) := by
  rw [← own_a248 ⟨_, h⟩]
  exact ⟨fun q => by have z := congrArg (fun y : Int32 => y.toBitVec.toNat) q; rw [show ((x &&& 248 : Int32).toBitVec.toNat) = _ from own_and x 248] at z; exact z, fun q => own_inj (by rw [own_and]; exact q)⟩
theorem own_m192 (x : Int32) (h : x.toBitVec.toNat < 256) : (x &&& 192) = 128 ↔ (128 ≤ x.toBitVec.toNat ∧ x.toBitVec.toNat < 192) := by
  rw [← own_a192 ⟨_, h⟩]
  exact ⟨fun q => by have z := congrArg (fun y : Int32 => y.toBitVec.toNat) q; rw [show ((x &&& 192 : Int32).toBitVec.toNat) = _ from own_and x 192] at z; exact z, fun q => own_inj (by rw [own_and]; exact q)⟩
theorem own_lt (x v : Int32) (h1 : x.toBitVec.toNat < 2 ^ 31) (h2 : v.toBitVec.toNat < 2 ^ 31) : x < v ↔ x.toBitVec.toNat < v.toBitVec.toNat := by
  have a := own_nat x; have b := own_nat v; have c := rng32 x; have d := rng32 v
  rw [Int32.lt_iff_toInt_lt]; omega
theorem own_e2 (c : Int32) (h : c.toBitVec.toNat < 2048) : (f2_v39 c).toBitVec.toNat = (192 + c.toBitVec.toNat / 64) + 256 * (128 + c.toBitVec.toNat % 64) := by
  unfold f2_v39
  have a1 := own_shr c 6 6 rfl
  have a2 := own_mask c 63 6 rfl
  have a3 := own_or 192 ((c.toUInt32 >>> ((6 : Int32) &&& 31).toUInt32).toInt32) 6 rfl (by rw [a1]; omega)
  have a4 := own_or 128 (c &&& 63) 6 rfl (by rw [a2]; omega)
  have a5 := own_shl (128 ||| (c &&& 63)) 8 8 rfl
  rw [show (192 : Int32).toBitVec.toNat = 192 from rfl] at a3
  rw [show (128 : Int32).toBitVec.toNat = 128 from rfl] at a4
  rw [own_orS _ _ 8 (by omega) (by omega)]
  omega
theorem own_e3 (c : Int32) (h : c.toBitVec.toNat < 65536) : (f2_v84 c).toBitVec.toNat = (224 + c.toBitVec.toNat / 4096) + 256 * (128 + c.toBitVec.toNat / 64 % 64) + 65536 * (128 + c.toBitVec.toNat % 64) := by
  unfold f2_v84
  have a1 := own_shr c 12 12 rfl
  have b1 := own_shr c 6 6 rfl
  have a2 := own_mask c 63 6 rfl
  have b2 := own_mask ((c.toUInt32 >>> ((6 : Int32) &&& 31).toUInt32).toInt32) 63 6 rfl
  have a3 := own_or 224 ((c.toUInt32 >>> ((12 : Int32) &&& 31).toUInt32).toInt32) 5 rfl (by rw [a1]; omega)
  have a4 := own_or 128 (c &&& 63) 6 rfl (by rw [a2]; omega)
  have b4 := own_or 128 (((c.toUInt32 >>> ((6 : Int32) &&& 31).toUInt32).toInt32) &&& 63) 6 rfl (by rw [b2]; omega)
  have b5 := own_shl (128 ||| (((c.toUInt32 >>> ((6 : Int32) &&& 31).toUInt32).toInt32) &&& 63)) 8 8 rfl
  have a5 := own_shl (128 ||| (c &&& 63)) 16 16 rfl
  rw [show (224 : Int32).toBitVec.toNat = 224 from rfl] at a3
  rw [show (128 : Int32).toBitVec.toNat = 128 from rfl] at a4 b4
  have c1 := own_orS _ _ 8 (show (224 ||| ((c.toUInt32 >>> ((12 : Int32) &&& 31).toUInt32).toInt32)).toBitVec.toNat < 2 ^ 8 by omega) (show ((128 ||| (((c.toUInt32 >>> ((6 : Int32) &&& 31).toUInt32).toInt32) &&& 63)) <<< ((8 : Int32) &&& 31)).toBitVec.toNat % 2 ^ 8 = 0 by omega)
  rw [own_orS _ _ 16 (by omega) (by omega)]
  omega
theorem own_e4 (c : Int32) (h : c.toBitVec.toNat < 1114112) : (f2_v138 c).toBitVec.toNat = (240 + c.toBitVec.toNat / 262144) + 256 * (128 + c.toBitVec.toNat / 4096 % 64) + 65536 * (128 + c.toBitVec.toNat / 64 % 64) + 16777216 * (128 + c.toBitVec.toNat % 64) := by
  unfold f2_v138
  have a1 := own_shr c 18 18 rfl
  have d1 := own_shr c 12 12 rfl
  have b1 := own_shr c 6 6 rfl
  have a2 := own_mask c 63 6 rfl
  have b2 := own_mask ((c.toUInt32 >>> ((6 : Int32) &&& 31).toUInt32).toInt32) 63 6 rfl
  have d2 := own_mask ((c.toUInt32 >>> ((12 : Int32) &&& 31).toUInt32).toInt32) 63 6 rfl
  have a3 := own_or 240 ((c.toUInt32 >>> ((18 : Int32) &&& 31).toUInt32).toInt32) 4 rfl (by rw [a1]; omega)
  have a4 := own_or 128 (c &&& 63) 6 rfl (by rw [a2]; omega)
  have b4 := own_or 128 (((c.toUInt32 >>> ((6 : Int32) &&& 31).toUInt32).toInt32) &&& 63) 6 rfl (by rw [b2]; omega)
  have d4 := own_or 128 (((c.toUInt32 >>> ((12 : Int32) &&& 31).toUInt32).toInt32) &&& 63) 6 rfl (by rw [d2]; omega)
  have d5 := own_shl (128 ||| (((c.toUInt32 >>> ((12 : Int32) &&& 31).toUInt32).toInt32) &&& 63)) 8 8 rfl
  have b5 := own_shl (128 ||| (((c.toUInt32 >>> ((6 : Int32) &&& 31).toUInt32).toInt32) &&& 63)) 16 16 rfl
  have a5 := own_shl (128 ||| (c &&& 63)) 24 24 rfl
  rw [show (240 : Int32).toBitVec.toNat = 240 from rfl] at a3
  rw [show (128 : Int32).toBitVec.toNat = 128 from rfl] at a4 b4 d4
  have A : (240 ||| ((c.toUInt32 >>> ((18 : Int32) &&& 31).toUInt32).toInt32)).toBitVec.toNat = 240 + c.toBitVec.toNat / 262144 := by omega
  have B : ((128 ||| (((c.toUInt32 >>> ((12 : Int32) &&& 31).toUInt32).toInt32) &&& 63)) <<< ((8 : Int32) &&& 31)).toBitVec.toNat = 256 * (128 + c.toBitVec.toNat / 4096 % 64) := by omega
  have C : ((128 ||| (((c.toUInt32 >>> ((6 : Int32) &&& 31).toUInt32).toInt32) &&& 63)) <<< ((16 : Int32) &&& 31)).toBitVec.toNat = 65536 * (128 + c.toBitVec.toNat / 64 % 64) := by omega
  have E : ((128 ||| (c &&& 63)) <<< ((24 : Int32) &&& 31)).toBitVec.toNat = 16777216 * (128 + c.toBitVec.toNat % 64) := by omega
  clear a1 d1 b1 a2 b2 d2 a3 a4 b4 d4 d5 b5 a5
  generalize (240 ||| ((c.toUInt32 >>> ((18 : Int32) &&& 31).toUInt32).toInt32)) = x0 at *
  generalize ((128 ||| (((c.toUInt32 >>> ((12 : Int32) &&& 31).toUInt32).toInt32) &&& 63)) <<< ((8 : Int32) &&& 31)) = x1 at *
  generalize ((128 ||| (((c.toUInt32 >>> ((6 : Int32) &&& 31).toUInt32).toInt32) &&& 63)) <<< ((16 : Int32) &&& 31)) = x2 at *
  generalize ((128 ||| (c &&& 63)) <<< ((24 : Int32) &&& 31)) = x3 at *
  have c1 := own_orS x0 x1 8 (by omega) (by omega)
  have c2 := own_orS (x0 ||| x1) x2 16 (by omega) (by omega)
  rw [own_orS _ _ 24 (by omega) (by omega)]
  omega
theorem own_by (a b c d : Nat) (ha : a < 256) (hb : b < 256) (hc : c < 256) (hd : d < 256) : (a + 256 * b + 65536 * c + 16777216 * d) % 256 = a ∧ (a + 256 * b + 65536 * c + 16777216 * d) / 256 % 256 = b ∧ (a + 256 * b + 65536 * c + 16777216 * d) / 65536 % 256 = c ∧ (a + 256 * b + 65536 * c + 16777216 * d) / 16777216 = d := by
  refine ⟨by omega, by omega, by omega, by omega⟩
theorem own_by0 (a b c : Nat) (ha : a < 256) (hb : b < 256) (hc : c < 256) : (a + 256 * b + 65536 * c) / 65536 = c := by omega
theorem own_d2 (c : Int32) (h : c.toBitVec.toNat < 2048) : ∃ u v : Nat, c.toBitVec.toNat = 64 * u + v ∧ u < 32 ∧ v < 64 ∧ (f2_v39 c).toBitVec.toNat % 256 = 192 + u ∧ (f2_v39 c).toBitVec.toNat / 256 % 256 = 128 + v ∧ (f2_v39 c).toBitVec.toNat / 65536 = 0 ∧ (f2_v39 c).toBitVec.toNat / 16777216 = 0 := by
  refine ⟨c.toBitVec.toNat / 64, c.toBitVec.toNat % 64, by omega, by omega, by omega, ?_⟩
  rw [own_e2 c h]
  have q := own_by (192 + c.toBitVec.toNat / 64) (128 + c.toBitVec.toNat % 64) 0 0 (by omega) (by omega) (by omega) (by omega)
  have q0 := own_by0 (192 + c.toBitVec.toNat / 64) (128 + c.toBitVec.toNat % 64) 0 (by omega) (by omega) (by omega)
  exact ⟨q.1, q.2.1, q0, q.2.2.2⟩
theorem own_d3 (c : Int32) (h : c.toBitVec.toNat < 65536) : ∃ u v w : Nat, c.toBitVec.toNat = 4096 * u + 64 * v + w ∧ u < 16 ∧ v < 64 ∧ w < 64 ∧ (f2_v84 c).toBitVec.toNat % 256 = 224 + u ∧ (f2_v84 c).toBitVec.toNat / 256 % 256 = 128 + v ∧ (f2_v84 c).toBitVec.toNat / 65536 % 256 = 128 + w ∧ (f2_v84 c).toBitVec.toNat / 16777216 = 0 := by
  refine ⟨c.toBitVec.toNat / 4096, c.toBitVec.toNat / 64 % 64, c.toBitVec.toNat % 64, by omega, by omega, by omega, by omega, ?_⟩
  rw [own_e3 c h]
  exact own_by (224 + c.toBitVec.toNat / 4096) (128 + c.toBitVec.toNat / 64 % 64) (128 + c.toBitVec.toNat % 64) 0 (by omega) (by omega) (by omega) (by omega)
theorem own_d4 (c : Int32) (h : c.toBitVec.toNat < 1114112) : ∃ t u v w : Nat, c.toBitVec.toNat = 262144 * t + 4096 * u + 64 * v + w ∧ t < 5 ∧ u < 64 ∧ v < 64 ∧ w < 64 ∧ (f2_v138 c).toBitVec.toNat % 256 = 240 + t ∧ (f2_v138 c).toBitVec.toNat / 256 % 256 = 128 + u ∧ (f2_v138 c).toBitVec.toNat / 65536 % 256 = 128 + v ∧ (f2_v138 c).toBitVec.toNat / 16777216 = 128 + w := by
  refine ⟨c.toBitVec.toNat / 262144, c.toBitVec.toNat / 4096 % 64, c.toBitVec.toNat / 64 % 64, c.toBitVec.toNat % 64, by omega, by omega, by omega, by omega, by omega, ?_⟩
  rw [own_e4 c h]
  exact own_by (240 + c.toBitVec.toNat / 262144) (128 + c.toBitVec.toNat / 4096 % 64) (128 + c.toBitVec.toNat / 64 % 64) (128 + c.toBitVec.toNat % 64) (by omega) (by omega) (by omega) (by omega)
theorem own_v6 (p : Int32) : (f0_v6 p).toBitVec.toNat < 1114112 := by
  unfold f0_v6
  rw [own_rem]
  have h := c_mask p 2147483647 31 (by decide) (by decide)
  have h2 := (c_irem (p &&& 2147483647) 1114112 1114112 rfl).1 (by rw [h]; omega)
  have h3 := own_nat ((p &&& 2147483647) % 1114112)
  omega
theorem own_law (p : Int32) : f0 p = 1 := by
  have hc := own_v6 p
  unfold f0 f0_s0_103 f0_s0_123 f0_l9_210 f0_s0_230 f0_s0_57 f0_s0_89
  generalize f0_v6 p = c at *
  have l128 := own_lt c 128 (by omega) (by decide)
  have l2048 := own_lt c 2048 (by omega) (by decide)
  have l65536 := own_lt c 65536 (by omega) (by decide)
  rw [show (128 : Int32).toBitVec.toNat = 128 from rfl] at l128
  rw [show (2048 : Int32).toBitVec.toNat = 2048 from rfl] at l2048
  rw [show (65536 : Int32).toBitVec.toNat = 65536 from rfl] at l65536
  by_cases h1 : c < 128
  · have hf : f1 c = 1 := by unfold f1; rw [if_pos h1]
    have he : f2 c = c := by unfold f2; rw [if_pos h1]
    have hm := own_mask c 255 8 rfl
    have t1 := own_shr c 8 8 rfl
    have n1 := l128.mp h1
    rw [hf, he]
    have q1 : c &&& 255 = c := own_inj (by rw [hm]; omega)
    have q2 : ((c.toUInt32 >>> ((8 * 1 : Int32) &&& 31).toUInt32).toInt32) = 0 := own_inj (by rw [show ((8 : Int32) * 1) = 8 from rfl, t1, show (0 : Int32).toBitVec.toNat = 0 from rfl]; omega)
    simp only [if_true, if_false, q1, q2, h1, show ((1 : Int32) <<< ((7 : Int32) &&& 31)) = 128 from rfl, show ¬ ((1 : Int32) < 1) by decide, show ¬ ((4 : Int32) < 1) by decide, show ¬ ((1 : Int32) = 0) by decide, show ¬ ((1 : Int32) = 4) by decide]
  · have m1 : ¬ c.toBitVec.toNat < 128 := fun q => h1 (l128.mpr q)
    by_cases h2 : c < 2048
    · have n2 := l2048.mp h2
      have hf : f1 c = 2 := by unfold f1; rw [if_neg h1, if_pos h2]
      have he : f2 c = f2_v39 c := by unfold f2; rw [if_neg h1, if_pos h2]
      obtain ⟨u, v, hn, hu, hv, E0, E1, E2, E3⟩ := own_d2 c n2
      rw [hf, he]
      generalize f2_v39 c = e at *
      have hm := own_mask e 255 8 rfl
      have t1 := own_shr e 16 16 rfl
      have q2 : ((e.toUInt32 >>> ((8 * 2 : Int32) &&& 31).toUInt32).toInt32) = 0 := own_inj (by rw [show ((8 : Int32) * 2) = 16 from rfl, t1, show (0 : Int32).toBitVec.toNat = 0 from rfl]; omega)
      generalize e &&& 255 = b at *
      have g1 : ¬ b < 128 := by rw [own_lt b 128 (by omega) (by decide), show (128 : Int32).toBitVec.toNat = 128 from rfl]; omega
      have g2 : (b &&& 224) = 192 := (own_m224 b (by omega)).mpr (by omega)
      simp only [if_true, if_false, q2, h2, h1, g1, g2, show ((1 : Int32) <<< ((7 : Int32) &&& 31)) = 128 from rfl, show ((1 : Int32) <<< ((11 : Int32) &&& 31)) = 2048 from rfl, show ¬ ((2 : Int32) < 1) by decide, show ¬ ((4 : Int32) < 2) by decide, show ¬ ((2 : Int32) = 1) by decide, show ¬ ((2 : Int32) = 4) by decide, show ¬ ((1 : Int32) = 0) by decide]
    · have m2 : ¬ c.toBitVec.toNat < 2048 := fun q => h2 (l2048.mpr q)
      by_cases h3 : c < 65536
      · have n3 := l65536.mp h3
        have hf : f1 c = 3 := by unfold f1; rw [if_neg h1, if_neg h2, if_pos h3]
        have he : f2 c = f2_v84 c := by unfold f2; rw [if_neg h1, if_neg h2, if_pos h3]
        obtain ⟨u, v, w, hn, hu, hv, hw, E0, E1, E2, E3⟩ := own_d3 c n3
        rw [hf, he]
        generalize f2_v84 c = e at *
        have hm := own_mask e 255 8 rfl
        have t1 := own_shr e 24 24 rfl
        have q2 : ((e.toUInt32 >>> ((8 * 3 : Int32) &&& 31).toUInt32).toInt32) = 0 := own_inj (by rw [show ((8 : Int32) * 3) = 24 from rfl, t1, show (0 : Int32).toBitVec.toNat = 0 from rfl]; omega)
        generalize e &&& 255 = b at *
        have g1 : ¬ b < 128 := by rw [own_lt b 128 (by omega) (by decide), show (128 : Int32).toBitVec.toNat = 128 from rfl]; omega
        have g2 : ¬ (b &&& 224) = 192 := fun q => by have z := (own_m224 b (by omega)).mp q; omega
        have g3 : (b &&& 240) = 224 := (own_m240 b (by omega)).mpr (by omega)
        simp only [if_true, if_false, q2, h3, h2, h1, g1, g2, g3, show ((1 : Int32) <<< ((16 : Int32) &&& 31)) = 65536 from rfl, show ((1 : Int32) <<< ((11 : Int32) &&& 31)) = 2048 from rfl, show ¬ ((3 : Int32) < 1) by decide, show ¬ ((4 : Int32) < 3) by decide, show ¬ ((3 : Int32) = 1) by decide, show ¬ ((3 : Int32) = 2) by decide, show ¬ ((3 : Int32) = 4) by decide, show ¬ ((1 : Int32) = 0) by decide]
      · have m3 : ¬ c.toBitVec.toNat < 65536 := fun q => h3 (l65536.mpr q)
        have hf : f1 c = 4 := by unfold f1; rw [if_neg h1, if_neg h2, if_neg h3]
        have he : f2 c = f2_v138 c := by unfold f2; rw [if_neg h1, if_neg h2, if_neg h3]
        obtain ⟨t, u, v, w, hn, ht, hu, hv, hw, E0, E1, E2, E3⟩ := own_d4 c hc
        rw [hf, he]
        generalize f2_v138 c = e at *
        have hm := own_mask e 255 8 rfl
        generalize e &&& 255 = b at *
        have g0 : c < 2097152 := by rw [own_lt c 2097152 (by omega) (by decide), show (2097152 : Int32).toBitVec.toNat = 2097152 from rfl]; omega
        have g1 : ¬ b < 128 := by rw [own_lt b 128 (by omega) (by decide), show (128 : Int32).toBitVec.toNat = 128 from rfl]; omega
        have g2 : ¬ (b &&& 224) = 192 := fun q => by have z := (own_m224 b (by omega)).mp q; omega
        have g3 : ¬ (b &&& 240) = 224 := fun q => by have z := (own_m240 b (by omega)).mp q; omega
        have g4 : (b &&& 248) = 240 := (own_m248 b (by omega)).mpr (by omega)
        simp only [if_true, if_false, g0, h3, h2, h1, g1, g2, g3, g4, show ((1 : Int32) <<< ((16 : Int32) &&& 31)) = 65536 from rfl, show ((1 : Int32) <<< ((21 : Int32) &&& 31)) = 2097152 from rfl, show ¬ ((4 : Int32) < 1) by decide, show ¬ ((4 : Int32) < 4) by decide, show ¬ ((4 : Int32) = 1) by decide, show ¬ ((4 : Int32) = 2) by decide, show ¬ ((4 : Int32) = 3) by decide, show ¬ ((1 : Int32) = 0) by decide]

set_option maxRecDepth 65536 in
set_option maxHeartbeats 40000000 in
theorem comes_1 {Post : Tables → Env → Array Value → State → Outcome → State → Prop} (hpost : ∀ tb e args s v u, (limb_1_1.after args s (.returned v) u = true ∧ limb_1_2.after args s (.returned v) u = true ∧ True) → FrameEnd s (.returned v) u (Jvm.fieldLocs frame_1_writes args s ++ Jvm.arrayLocs frame_1_arrays args s ++ Jvm.staticLocs frame_1_statics s) 0 0 → Post tb e args s (.returned v) u) :
    ArmFor flags0 classFile x code maxLocals ret World_1 tables_1 room_1 Calls_1 rest_1 Pre_1 Post := by
  intro l hfl _ _ p e ha hc hk s m args below hf hA hF happ hP
  obtain ⟨hcalls, hrest, hpre⟩ := hP
  obtain ⟨-, -, -, hnamed, -, -, -, hat⟩ := (Spec.applies_iff hf).mp happ
  obtain ⟨hg, hn⟩ := and_e (Cond.before_iff.mp (show (Jvm.Cond.and given_1 narrow_1).before args s = true from hpre))
  obtain ⟨g1, g2⟩ := and_e hg
  obtain ⟨w0, rfl⟩ : ∃ w0 : Value, args = #[w0] := by
    have hs : args.size = 1 := by simpa [Cond.value, given_1] using g1
    obtain ⟨L⟩ := args
    match L, hs with
    | [w0], _ => exact ⟨w0, rfl⟩
  have hw := fun d (hd : d ∈ tables_1) => atoms_spec (ws := Jvm.Cond.code x code maxLocals ret :: tables_1) hat d (List.mem_cons_of_mem _ hd)
  have hfit : Fit s := fun {y c} hc i hi => by
    obtain ⟨ha, rfl⟩ := Array.getElem?_eq_some_iff.mp hc
    have q := List.all_eq_true.mp ((Array.all_eq_true_iff_forall_mem.mp hF) _ (Array.getElem_mem ha)) i (List.mem_range.mpr hi)
    simpa [Array.getElem?_eq_getElem hi] using q
  obtain ⟨i0, ei0⟩ := is_v g2
  obtain rfl : w0 = (.int i0) := Option.some.inj ei0
  obtain ⟨n, o, h1, h2, h3, v', L, rfl, ⟨hv', N, -⟩, hq⟩ := rm0 l s _ hw tables_1 i0 s.heap s.heap.size (Nat.le_refl _)  p e ha hc hk s m _ below hf ((Spec.applies_iff_loose hf).mp happ).1 ⟨rfl, State.Warmed39.refl s, rfl⟩ trivial
  rw [own_law i0] at hv'
  subst hv'
  refine ⟨n, _, h1, h2, h3, hpost _ _ _ _ _ _ ⟨Cond.after_iff.mpr rfl, Cond.after_iff.mpr (eq_i res_at (Term.int_eval (1)) rfl), trivial⟩ ⟨hq.1, hq.2.1, (hq.2.2.sift fun y hy => Or.inr (N y hy)).mono (by decide) (by decide)⟩⟩
theorem main_1_1 : Claimed_1_1 := comes_1 fun _ _ _ _ _ _ h hF => ⟨h.1, hF⟩
theorem main_1_2 : Claimed_1_2 := comes_1 fun _ _ _ _ _ _ h hF => ⟨h.2.1, hF⟩
end Jvm.Pilot.@@N@@
namespace Jvm.Pilot.@@N@@
open Jvm Jvm.ClassFile Sem Op Lib Jvm.Free Jvm.Stand Jvm.Pilot.@@N@@.Jvm.D
/-! MADE BY PROGRAM (witnessworld.py) out of the Statement's table words and the real class files: 9 classes; the members and pool entries that the words name. The judged class is class 1, her method 1. -/
namespace start1
open Jvm.ClassFile
def u (s : String) : CpInfo := .utf8 (stringToUtf16 s)
/-- a pool by its gaps: so many unusable entries, then the entry; so many at the end -/
def gap : Nat → List CpInfo → List CpInfo
  | 0, r => r
  | n + 1, r => .unusable :: gap n r
def poolList (es : List (Nat × CpInfo)) (last : Nat) : List CpInfo := es.foldr (fun e r => gap e.1 (e.2 :: r)) (gap last [])
def pool (es : List (Nat × CpInfo)) (last : Nat) : Array CpInfo := ⟨poolList es last⟩
def fileOf (pool : Array CpInfo) (this : Nat) (attrs : Array Attribute := #[]) (ms : Array MethodInfo := #[]) (fl : Nat := 33) (sup : Nat := 0) (ifs : Array Nat := #[]) (fds : Array FieldInfo := #[]) : ClassFile where
  minorVersion := 0
  majorVersion := 65
  constantPool := pool
  accessFlags := fl
  thisClass := this
  superClass := sup
  interfaces := ifs
  fields := fds
  methods := ms
  attributes := attrs
def plain (name : String) (sup : Option ClassId) : Class where
  name := name
  kind := .ordinary
  loader := none
  accessFlags := 33
  super := sup
  interfaces := #[]
  cf := none
  fields := #[]
  methods := #[]
  instanceTypes := #[]
  staticTypes := #[]
  resolved := #[]
  callSites := []
  init := .initialized
  statics := none
  mirror := none

def pool0 : Array CpInfo := pool [(5, u "<init>"), (0, u "()V"), (1, .class_ 10), (1, u "java/lang/Object")] 113

def k0m0 : Method := { name := "<init>", desc := "()V", sig := { parameters := [], returnType := none }, accessFlags := 1, code := none }
/-- java/lang/Object -/
def k0 : Class := { plain "java/lang/Object" none with
  accessFlags := 33
  interfaces := #[]
  cf := some (fileOf pool0 8 #[] #[{ accessFlags := 1, nameIndex := 5, descriptorIndex := 6, attributes := #[] }] 33 0 #[] #[])
  fields := #[]
  methods := #[k0m0]
  instanceTypes := #[]
  staticTypes := #[]
  resolved := Array.replicate 124 none
  statics := none }

def pool1 : Array CpInfo := pool [(2, .class_ 4), (1, u "java/lang/Object"), (0, u "<init>"), (0, u "()V"), (0, .integer 2147483647), (0, .integer 1114112), (0, .methodref 10 11), (0, .class_ 12), (0, .nameAndType 13 14), (0, u "com/example/ringward/ringward/Utf8"), (0, u "length"), (0, u "(I)I"), (0, .methodref 10 16), (0, .nameAndType 17 14), (0, u "encode"), (0, .class_ 19), (0, u "com/example/ringward/ringward/Utf8LengthPinLaw"), (2, u "law"), (0, u "(I)Z")] 3

def k1m0 : Method := { name := "<init>", desc := "()V", sig := { parameters := [], returnType := none }, accessFlags := 2, code := none }
def k1c1 : Code := { maxStack := 3, maxLocals := 11, code := code, exceptionTable := #[], attributes := #[] }
def k1m1 : Method := { name := "law", desc := "(I)Z", sig := { parameters := [.int], returnType := some .boolean }, accessFlags := 9, code := some k1c1 }
/-- com/example/ringward/ringward/Utf8LengthPinLaw -/
def k1 : Class := { plain "com/example/ringward/ringward/Utf8LengthPinLaw" (some 0) with
  accessFlags := 49
  interfaces := #[]
  cf := some (fileOf pool1 18 #[] #[{ accessFlags := 2, nameIndex := 5, descriptorIndex := 6, attributes := #[] }, { accessFlags := 9, nameIndex := 22, descriptorIndex := 23, attributes := #[] }] 49 2 #[] #[])
  fields := #[]
  methods := #[k1m0, k1m1]
  instanceTypes := #[]
  staticTypes := #[]
  resolved := Array.replicate 27 none
  statics := none }

def pool2 : Array CpInfo := pool [(2, .class_ 4), (1, u "java/lang/Object"), (0, u "<init>"), (0, u "()V"), (4, u "length"), (4, u "(I)I"), (30, .integer 65536), (0, .class_ 49), (0, u "com/example/ringward/ringward/Utf8"), (7, u "encode")] 17

def k2m0 : Method := { name := "<init>", desc := "()V", sig := { parameters := [], returnType := none }, accessFlags := 2, code := none }
def k2c1 : Code := { maxStack := 4, maxLocals := 2, code := prog_14_method_5_code, exceptionTable := #[], attributes := #[] }
def k2m1 : Method := { name := "encode", desc := "(I)I", sig := { parameters := [.int], returnType := some .int }, accessFlags := 8, code := some k2c1 }
def k2c2 : Code := { maxStack := 2, maxLocals := 2, code := prog_14_method_6_code, exceptionTable := #[], attributes := #[] }
def k2m2 : Method := { name := "length", desc := "(I)I", sig := { parameters := [.int], returnType := some .int }, accessFlags := 8, code := some k2c2 }
/-- com/example/ringward/ringward/Utf8 -/
def k2 : Class := { plain "com/example/ringward/ringward/Utf8" (some 0) with
  accessFlags := 48
  interfaces := #[]
  cf := some (fileOf pool2 48 #[] #[{ accessFlags := 2, nameIndex := 5, descriptorIndex := 6, attributes := #[] }, { accessFlags := 8, nameIndex := 57, descriptorIndex := 16, attributes := #[] }, { accessFlags := 8, nameIndex := 11, descriptorIndex := 16, attributes := #[] }] 48 2 #[] #[])
  fields := #[]
  methods := #[k2m0, k2m1, k2m2]
  instanceTypes := #[]
  staticTypes := #[]
  resolved := Array.replicate 75 none
  statics := none }

def pool3 : Array CpInfo := pool [(1, u "java/lang/Cloneable"), (0, .class_ 1), (0, u "java/lang/Object"), (0, .class_ 3)] 3

/-- java/lang/Cloneable -/
def k3 : Class := { plain "java/lang/Cloneable" (some 0) with
  accessFlags := 1537
  interfaces := #[]
  cf := some (fileOf pool3 2 #[] #[] 1537 4 #[] #[])
  fields := #[]
  methods := #[]
  instanceTypes := #[]
  staticTypes := #[]
  resolved := Array.replicate 8 none
  statics := none }

def pool4 : Array CpInfo := pool [(1, u "java/io/Serializable"), (0, .class_ 1), (0, u "java/lang/Object"), (0, .class_ 3)] 3

/-- java/io/Serializable -/
def k4 : Class := { plain "java/io/Serializable" (some 0) with
  accessFlags := 1537
  interfaces := #[]
  cf := some (fileOf pool4 2 #[] #[] 1537 4 #[] #[])
  fields := #[]
  methods := #[]
  instanceTypes := #[]
  staticTypes := #[]
  resolved := Array.replicate 8 none
  statics := none }

/-- the primitive byte -/
def k5 : Class := { plain "byte" none with kind := .primitive 'B', accessFlags := 0x411 }
/-- [B -/
def k6 : Class := { plain "[B" (some 0) with kind := .array 5 .byte, interfaces := #[3, 4], accessFlags := 1041 }

/-- the primitive int -/
def k7 : Class := { plain "int" none with kind := .primitive 'I', accessFlags := 0x411 }
/-- [I -/
def k8 : Class := { plain "[I" (some 0) with kind := .array 7 .int, interfaces := #[3, 4], accessFlags := 1041 }

def heap : Heap := #[]
def classes : Array Class := #[k0, k1, k2, k3, k4, k5, k6, k7, k8]
def interned : List (Array UInt16 × Addr) := []
def slotsUsed : Nat := 0
def theMethod : MethodId := ⟨1, 1⟩
def args0 : Array Value := #[.int 65]
def aboutOver (below : List Frame) : State where
  vm := { classes := classes, interned := interned.toArray }
  heap := heap
  slotsUsed := slotsUsed
  threads := #[{ frames := .invoking theMethod args0 :: below }]
def below0 : List Frame := [.native { method := ⟨0, 0⟩, args := #[] }]
def about1 : State := aboutOver below0
def p0 : Program := .bare "" "" ""
def e0 : Env := launch0.env 0 0 0
theorem w_frames : about1.frames = Frame.invoking theMethod args0 :: below0 := rfl
set_option maxRecDepth 65536 in
theorem w_args : argsFit about1.vm theMethod args0 = true := by decide +kernel
set_option maxRecDepth 65536 in
theorem w_heap : heapFits about1 = true := by decide +kernel
set_option maxRecDepth 65536 in
theorem w_runnable : about1.curStatus? = some .runnable := by decide +kernel
set_option maxRecDepth 65536 in
theorem w_alone : about1.alone = true := by decide +kernel
set_option maxRecDepth 65536 in
theorem w_named : about1.methodNamed? x = some theMethod := by decide +kernel
set_option maxRecDepth 65536 in
theorem w_hears : about1.hears theMethod below0 = true := by decide +kernel
set_option maxRecDepth 65536 in
theorem w_ripe : about1.ripe theMethod args0 below0 = true := by decide +kernel
theorem w_running : about1.status = .running := rfl
set_option maxRecDepth 65536 in
theorem w_room : about1.hasRoom e0.platform room_1 = true :=
  launch0.hasRoom_least _ room_1 (by decide +kernel) (by decide +kernel) (by decide +kernel) (by decide +kernel) (by decide +kernel) (by decide +kernel)
theorem allAtoms_all (ts : List Jvm.Cond) (a : Array Jvm.Value) (st : Jvm.State) : (allAtoms ts).before a st = ts.all (fun c => c.before a st) := by
  induction ts with
  | nil => rfl
  | cons c t ih =>
    show (Jvm.Cond.and c (allAtoms t)).before a st = _
    rw [Jvm.Cond.before_and, ih, List.all_cons]
def words1 : List Jvm.Cond := Jvm.Cond.code x code maxLocals ret :: tables_1
/-- a 'code' word, met by the world's own term for the bytes: nothing is compared byte by byte -/
theorem code_word {y : MethodName} {bytes : ByteArray} {mx : Nat} {rt : Option FieldType} {a : Array Value} {s : State} {m : MethodId} {meth : Method} {c : Code} (h1 : s.methodNamed? y = some m) (h2 : s.vm.method? m = some meth) (h3 : meth.code = some c) (h4 : c.code = bytes)
    (h5 : (c.maxLocals == mx && c.exceptionTable.isEmpty && decide (c.maxStack ≤ mostOperands) && decide (meth.sig.returnType = rt) && !meth.locks && decide (parseMethodDescriptor y.desc = some meth.sig)) = true) : (Jvm.Cond.code y bytes mx rt).before a s = true := by
  simp only [Bool.and_eq_true, beq_iff_eq, Bool.not_eq_true', decide_eq_true_eq] at h5
  obtain ⟨⟨⟨⟨⟨g1, g2⟩, g3⟩, g4⟩, g5⟩, g6⟩ := h5
  simp [Cond.before, Cond.holds, Cond.value, h1, h2, h3, h4, g1, g2, g3, g4, g5, g6]
def isCode : Jvm.Cond → Bool
  | .code _ _ _ _ => true
  | _ => false
theorem all_split {L : List Jvm.Cond} {P : Jvm.Cond → Bool} (h1 : L.all (fun c => isCode c || P c) = true) (h2 : ∀ c ∈ L.filter isCode, P c = true) : L.all P = true := by
  refine List.all_eq_true.mpr fun c hc => ?_
  have h := List.all_eq_true.mp h1 c hc
  rcases Bool.eq_false_or_eq_true (isCode c) with hi | hi
  · exact h2 c (List.mem_filter.mpr ⟨hc, hi⟩)
  · simpa [hi] using h
set_option maxRecDepth 65536 in
theorem w_c0 : (Jvm.Cond.code x code maxLocals ret).before args0 about1 = true := code_word (m := ⟨1, 1⟩) (meth := k1m1) (c := k1c1) (by decide +kernel) rfl rfl rfl (by decide +kernel)
set_option maxRecDepth 65536 in
theorem w_c1 : (Jvm.Cond.code ({ cls := "com/example/ringward/ringward/Utf8", name := "length", desc := "(I)I" } : Jvm.MethodName) prog_14_method_6_code (2 : Nat) (Option.some Jvm.ClassFile.FieldType.int)).before args0 about1 = true := code_word (m := ⟨2, 2⟩) (meth := k2m2) (c := k2c2) (by decide +kernel) rfl rfl rfl (by decide +kernel)
set_option maxRecDepth 65536 in
theorem w_c2 : (Jvm.Cond.code ({ cls := "com/example/ringward/ringward/Utf8", name := "encode", desc := "(I)I" } : Jvm.MethodName) prog_14_method_5_code (2 : Nat) (Option.some Jvm.ClassFile.FieldType.int)).before args0 about1 = true := code_word (m := ⟨2, 1⟩) (meth := k2m1) (c := k2c1) (by decide +kernel) rfl rfl rfl (by decide +kernel)
def codes1 : List Jvm.Cond := [Jvm.Cond.code x code maxLocals ret, Jvm.Cond.code ({ cls := "com/example/ringward/ringward/Utf8", name := "length", desc := "(I)I" } : Jvm.MethodName) prog_14_method_6_code (2 : Nat) (Option.some Jvm.ClassFile.FieldType.int), Jvm.Cond.code ({ cls := "com/example/ringward/ringward/Utf8", name := "encode", desc := "(I)I" } : Jvm.MethodName) prog_14_method_5_code (2 : Nat) (Option.some Jvm.ClassFile.FieldType.int)]
set_option maxRecDepth 65536 in
theorem codes_eq : words1.filter isCode = codes1 := rfl
theorem w_codes : ∀ c ∈ words1.filter isCode, c.before args0 about1 = true := by
  rw [codes_eq]
  intro c hc
  simp only [codes1, List.mem_cons, List.not_mem_nil, or_false] at hc
  rcases hc with rfl | rfl | rfl
  · exact w_c0
  · exact w_c1
  · exact w_c2
set_option maxRecDepth 65536 in
theorem w_t1 : words1.all (fun c => isCode c || c.before args0 about1) = true := by decide +kernel
theorem w_tables : (allAtoms (Jvm.Cond.code x code maxLocals ret :: tables_1)).before args0 about1 = true := by
  rw [allAtoms_all]
  show words1.all (fun c => c.before args0 about1) = true
  refine all_split ?_ w_codes
  rw [w_t1]
set_option maxRecDepth 65536 in
theorem w_case : (Jvm.Cond.and given_1 narrow_1).before args0 about1 = true := by decide +kernel
theorem w_applies : (headSpec (Jvm.Cond.code x code maxLocals ret :: tables_1) room_1).applies x e0.platform about1 = true :=
  (Spec.applies_iff w_frames).mpr ⟨w_running, w_runnable, w_alone, w_named, w_hears, w_ripe, w_room, w_tables⟩
theorem atStart : AtStart classFile x code maxLocals ret World_1 tables_1 room_1 Calls_1 rest_1 Pre_1 launch0 p0 e0 about1 theMethod args0 below0 :=
  ⟨lists_1, trivial, launch0.admits_env _ _ _, launch0.least_env, fairChoices_fair.cas, fairChoices_fair.clock, w_frames, w_args, w_heap, w_applies, trivial, trivial, w_case⟩
end start1
theorem witness_1 : WitnessClaimed_1 := ⟨start1.p0, start1.e0, start1.about1, start1.theMethod, start1.args0, start1.below0, start1.atStart⟩
end Jvm.Pilot.@@N@@
